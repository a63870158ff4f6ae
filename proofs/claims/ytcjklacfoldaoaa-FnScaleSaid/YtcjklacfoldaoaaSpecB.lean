/- Contract of AreRules. No condition. -/
import Derived.Test.YtcjklacfoldaoaaSpecA
namespace Go.Proofs.Ytcjklacfoldaoaa
open Go.RowKit
attribute [local go_sem ↓] Go.wp_at_zero Go.wp_at_succ

def rulesV (r : Rules) : Value := .agg #[.string r.name, .int .u32 r.most, .int .i64 r.interval, .int .i64 r.bucket, .int .i64 r.timeout, .int .i64 r.trip, .int .u32 r.bound, .bool r.hasGood, .int .u8 r.good, .bool r.hasOut, .int .u8 r.out]
def lowBit (x : Int) : Int := bits BinOp.and IntKind.u8 x 1
def areRules (r : Rules) : Bool :=
  decide (0 ≤ r.trip) && (decide (r.trip ≤ 5) && (decide ((r.name.size : Int) ≤ 1000) && (decide (r.bucket ≤ 0) && (isTime r.interval && (isTime r.timeout && ((!r.hasGood || lowBit r.good == 1) && (!r.hasOut || lowBit r.out == 0)))))))

set_option maxRecDepth 100000 in
set_option maxHeartbeats 4000000 in
theorem areRules_any (r : Rules) (w : World) : Calls Try.prog 29 #[rulesV r] w fun e w' => e = .returned (.bool (areRules r)) ∧ Below w.heap.size w w' := by
  unfold rulesV
  by_cases r1 : 0 ≤ r.trip
  · skip
    by_cases r2 : r.trip ≤ 5
    · skip
      by_cases r3 : (r.name.size : Int) ≤ 1000
      · skip
        by_cases r4 : r.bucket ≤ 0
        · skip
          by_cases r5 : isTime r.interval = true
          · skip
            have T5 := Lib.hid r5
            by_cases r6 : isTime r.timeout = true
            · skip
              have T6 := Lib.hid r6
              by_cases r7 : r.hasGood = true
              · skip
                by_cases r8 : lowBit r.good = 1
                · skip
                  have b8 : (bits BinOp.and IntKind.u8 r.good 1 == 1) = true := by simpa [lowBit] using r8
                  by_cases r9 : r.hasOut = true
                  · skip
                    by_cases r10 : lowBit r.out = 0
                    · skip
                      have b10 : (bits BinOp.and IntKind.u8 r.out 1 == 0) = true := by simpa [lowBit] using r10
                      rw [show areRules r = true by unfold areRules; simp [r1, r2, r3, r4, r5, r6, r7, r8, r9, r10]]
                      go_enter Try.func29, Try.ntmps29
                      go_wp2_with (go_at_call 23; refine (isTime_any _ _).mono ?_; rintro e w2 ⟨rfl, rfl⟩; first | rw [T5.out] | rw [T6.out])
                      go_ret
                      exact ⟨rfl, (Below.refl _ _).alloc (Nat.le_refl _) _⟩
                    · skip
                      have b10 : (bits BinOp.and IntKind.u8 r.out 1 == 0) = false := by simpa [lowBit] using r10
                      rw [show areRules r = false by unfold areRules; simp [r1, r2, r3, r4, r5, r6, r7, r8, r9, r10]]
                      go_enter Try.func29, Try.ntmps29
                      go_wp2_with (go_at_call 23; refine (isTime_any _ _).mono ?_; rintro e w2 ⟨rfl, rfl⟩; first | rw [T5.out] | rw [T6.out])
                      go_ret
                      exact ⟨rfl, (Below.refl _ _).alloc (Nat.le_refl _) _⟩
                  · skip
                    have f9 : r.hasOut = false := by simpa using r9
                    rw [show areRules r = true by unfold areRules; simp [r1, r2, r3, r4, r5, r6, r7, r8, f9]]
                    go_enter Try.func29, Try.ntmps29
                    go_wp2_with (go_at_call 23; refine (isTime_any _ _).mono ?_; rintro e w2 ⟨rfl, rfl⟩; first | rw [T5.out] | rw [T6.out])
                    go_ret
                    exact ⟨rfl, (Below.refl _ _).alloc (Nat.le_refl _) _⟩
                · skip
                  have b8 : (bits BinOp.and IntKind.u8 r.good 1 == 1) = false := by simpa [lowBit] using r8
                  rw [show areRules r = false by unfold areRules; simp [r1, r2, r3, r4, r5, r6, r7, r8]]
                  go_enter Try.func29, Try.ntmps29
                  go_wp2_with (go_at_call 23; refine (isTime_any _ _).mono ?_; rintro e w2 ⟨rfl, rfl⟩; first | rw [T5.out] | rw [T6.out])
                  go_ret
                  exact ⟨rfl, (Below.refl _ _).alloc (Nat.le_refl _) _⟩
              · skip
                have f7 : r.hasGood = false := by simpa using r7
                by_cases r9 : r.hasOut = true
                · skip
                  by_cases r10 : lowBit r.out = 0
                  · skip
                    have b10 : (bits BinOp.and IntKind.u8 r.out 1 == 0) = true := by simpa [lowBit] using r10
                    rw [show areRules r = true by unfold areRules; simp [r1, r2, r3, r4, r5, r6, f7, r9, r10]]
                    go_enter Try.func29, Try.ntmps29
                    go_wp2_with (go_at_call 23; refine (isTime_any _ _).mono ?_; rintro e w2 ⟨rfl, rfl⟩; first | rw [T5.out] | rw [T6.out])
                    go_ret
                    exact ⟨rfl, (Below.refl _ _).alloc (Nat.le_refl _) _⟩
                  · skip
                    have b10 : (bits BinOp.and IntKind.u8 r.out 1 == 0) = false := by simpa [lowBit] using r10
                    rw [show areRules r = false by unfold areRules; simp [r1, r2, r3, r4, r5, r6, f7, r9, r10]]
                    go_enter Try.func29, Try.ntmps29
                    go_wp2_with (go_at_call 23; refine (isTime_any _ _).mono ?_; rintro e w2 ⟨rfl, rfl⟩; first | rw [T5.out] | rw [T6.out])
                    go_ret
                    exact ⟨rfl, (Below.refl _ _).alloc (Nat.le_refl _) _⟩
                · skip
                  have f9 : r.hasOut = false := by simpa using r9
                  rw [show areRules r = true by unfold areRules; simp [r1, r2, r3, r4, r5, r6, f7, f9]]
                  go_enter Try.func29, Try.ntmps29
                  go_wp2_with (go_at_call 23; refine (isTime_any _ _).mono ?_; rintro e w2 ⟨rfl, rfl⟩; first | rw [T5.out] | rw [T6.out])
                  go_ret
                  exact ⟨rfl, (Below.refl _ _).alloc (Nat.le_refl _) _⟩
            · skip
              have f6 : isTime r.timeout = false := by simpa using r6
              have T6 := Lib.hid f6
              rw [show areRules r = false by unfold areRules; simp [r1, r2, r3, r4, r5, f6]]
              go_enter Try.func29, Try.ntmps29
              go_wp2_with (go_at_call 23; refine (isTime_any _ _).mono ?_; rintro e w2 ⟨rfl, rfl⟩; first | rw [T5.out] | rw [T6.out])
              go_ret
              exact ⟨rfl, (Below.refl _ _).alloc (Nat.le_refl _) _⟩
          · skip
            have f5 : isTime r.interval = false := by simpa using r5
            have T5 := Lib.hid f5
            rw [show areRules r = false by unfold areRules; simp [r1, r2, r3, r4, f5]]
            go_enter Try.func29, Try.ntmps29
            go_wp2_with (go_at_call 23; refine (isTime_any _ _).mono ?_; rintro e w2 ⟨rfl, rfl⟩; rw [T5.out])
            go_ret
            exact ⟨rfl, (Below.refl _ _).alloc (Nat.le_refl _) _⟩
        · skip
          rw [show areRules r = false by unfold areRules; simp [r1, r2, r3, r4]]
          go_enter Try.func29, Try.ntmps29
          go_wp2_with (fail)
          go_ret
          exact ⟨rfl, (Below.refl _ _).alloc (Nat.le_refl _) _⟩
      · skip
        rw [show areRules r = false by unfold areRules; simp [r1, r2, r3]]
        go_enter Try.func29, Try.ntmps29
        go_wp2_with (fail)
        go_ret
        exact ⟨rfl, (Below.refl _ _).alloc (Nat.le_refl _) _⟩
    · skip
      rw [show areRules r = false by unfold areRules; simp [r1, r2]]
      go_enter Try.func29, Try.ntmps29
      go_wp2_with (fail)
      go_ret
      exact ⟨rfl, (Below.refl _ _).alloc (Nat.le_refl _) _⟩
  · skip
    rw [show areRules r = false by unfold areRules; simp [r1]]
    go_enter Try.func29, Try.ntmps29
    go_wp2_with (fail)
    go_ret
    exact ⟨rfl, (Below.refl _ _).alloc (Nat.le_refl _) _⟩

end Go.Proofs.Ytcjklacfoldaoaa
