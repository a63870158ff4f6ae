/- Contracts of isOut, isGood, Trips. Conditions: error numbers and masks in their ranges. -/
import Derived.Test.YtcjklacfoldaoaaSpecG
namespace Go.Proofs.Ytcjklacfoldaoaa
open Go.RowKit
attribute [local go_sem ↓] Go.wp_at_zero Go.wp_at_succ

set_option maxHeartbeats 1000000 in
theorem isOut_any (r : Rules) (n : Int) (w : World) (rok : r.Ok) (n0 : 0 ≤ n) (n1 : n ≤ 7) :
    Calls Try.prog 65 #[rulesV r, .int .i64 n] w fun e w' => e = .returned (.bool (outB r n)) ∧ Below w.heap.size w w' := by
  unfold rulesV outB
  have g0 := rok.out0
  have g1 := rok.out1
  clear rok
  cases h : r.hasOut with
  | true =>
    simp only [if_true]
    unfold bitB
    go_enter Try.func65, Try.ntmps65
    go_wp2
    go_ret
    exact ⟨rfl, (Below.refl _ _).alloc (Nat.le_refl _) _⟩
  | false =>
    simp only [Bool.false_eq_true, if_false]
    go_enter Try.func65, Try.ntmps65
    go_wp2
    go_ret
    exact ⟨rfl, (Below.refl _ _).alloc (Nat.le_refl _) _⟩

set_option maxHeartbeats 1000000 in
theorem isGood_any (r : Rules) (n : Int) (w : World) (rok : r.Ok) (n0 : 0 ≤ n) (n1 : n ≤ 7) :
    Calls Try.prog 66 #[rulesV r, .int .i64 n] w fun e w' => e = .returned (.bool (goodB r n)) ∧ Below w.heap.size w w' := by
  unfold rulesV goodB
  have g0 := rok.good0
  have g1 := rok.good1
  clear rok
  cases h : r.hasGood with
  | true =>
    simp only [if_true]
    unfold bitB
    go_enter Try.func66, Try.ntmps66
    go_wp2
    go_ret
    exact ⟨rfl, (Below.refl _ _).alloc (Nat.le_refl _) _⟩
  | false =>
    simp only [Bool.false_eq_true, if_false]
    go_enter Try.func66, Try.ntmps66
    go_wp2
    go_ret
    exact ⟨rfl, (Below.refl _ _).alloc (Nat.le_refl _) _⟩

set_option maxRecDepth 100000 in
set_option maxHeartbeats 2000000 in
theorem trips2_any (r : Rules) (c : Cnt) (w : World) :
    Calls Try.prog 67 #[rulesV r, .agg #[.int .u32 c.r, .int .u32 c.s, .int .u32 c.f, .int .u32 c.x, .int .u32 c.g, .int .u32 c.h]] w fun e w' => e = .returned (.bool (tripB r c)) ∧ Below w.heap.size w w' := by
  have B : ∀ o1 o2 : Obj, Below w.heap.size w ((w.alloc o1).alloc o2) := fun o1 o2 => ((Below.refl _ _).alloc (Nat.le_refl _) _).alloc (by simp) _
  have BB := Lib.hid B
  clear B
  unfold rulesV tripB
  by_cases h1 : r.trip = 1
  · rw [if_pos h1]
    have k1 : (r.trip == 1) = true := by simpa using h1
    clear h1
    go_enter Try.func67, Try.ntmps67
    go_wp2
    go_ret
    exact ⟨rfl, BB.out _ _⟩
  · rw [if_neg h1]
    have k1 : (r.trip == 1) = false := by simpa using h1
    clear h1
    by_cases h2 : r.trip = 2
    · rw [if_pos h2]
      have k2 : (r.trip == 2) = true := by simpa using h2
      clear h2
      go_enter Try.func67, Try.ntmps67
      go_wp2
      go_ret
      exact ⟨rfl, BB.out _ _⟩
    · rw [if_neg h2]
      have k2 : (r.trip == 2) = false := by simpa using h2
      clear h2
      by_cases h3 : r.trip = 3
      · rw [if_pos h3]
        have k3 : (r.trip == 3) = true := by simpa using h3
        clear h3
        unfold w32
        by_cases q : r.bound ≤ c.r
        · rw [decide_eq_true q, Bool.true_and]
          go_enter Try.func67, Try.ntmps67
          go_wp2
          go_ret
          exact ⟨rfl, BB.out _ _⟩
        · rw [decide_eq_false q, Bool.false_and]
          go_enter Try.func67, Try.ntmps67
          go_wp2
          go_ret
          exact ⟨rfl, BB.out _ _⟩
      · rw [if_neg h3]
        have k3 : (r.trip == 3) = false := by simpa using h3
        clear h3
        by_cases h4 : r.trip = 4
        · rw [if_pos h4]
          have k4 : (r.trip == 4) = true := by simpa using h4
          clear h4
          go_enter Try.func67, Try.ntmps67
          go_wp2
          go_ret
          exact ⟨rfl, BB.out _ _⟩
        · rw [if_neg h4]
          have k4 : (r.trip == 4) = false := by simpa using h4
          clear h4
          by_cases h5 : r.trip = 5
          · rw [if_pos h5]
            have k5 : (r.trip == 5) = true := by simpa using h5
            clear h5
            go_enter Try.func67, Try.ntmps67
            go_wp2
            go_ret
            exact ⟨rfl, BB.out _ _⟩
          · rw [if_neg h5]
            have k5 : (r.trip == 5) = false := by simpa using h5
            clear h5
            go_enter Try.func67, Try.ntmps67
            go_wp2
            go_ret
            exact ⟨rfl, BB.out _ _⟩

end Go.Proofs.Ytcjklacfoldaoaa
