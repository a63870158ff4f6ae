/- The law FnScale as a contract: it is true. Conditions: the acts can be read, the rules' numbers are in their types' ranges. -/
import Derived.Test.YtcjklacfoldaoaaLater
import Derived.Deep.RegionHeld3
import Derived.Deep.RegionWith
import Derived.BigGuard
import Derived.Laws.Runes
import Derived.Test.YtcjklacfoldaoaaOpen
namespace Go.Proofs.Ytcjklacfoldaoaa
open Go.RowKit
attribute [local go_sem ↓] Go.wp_at_zero Go.wp_at_succ

theorem and4095 (x : Int) : 0 ≤ bits BinOp.and IntKind.i64 x 4095 ∧ bits BinOp.and IntKind.i64 x 4095 ≤ 4095 := by
  have h2 : (BitVec.ofInt 64 4095).toNat = 4095 := by decide
  have e : bits BinOp.and IntKind.i64 x 4095 = IntKind.i64.wrap ((BitVec.ofInt 64 x &&& BitVec.ofInt 64 4095).toNat : Int) := rfl
  have hle : (BitVec.ofInt 64 x).toNat &&& 4095 ≤ 4095 := Nat.and_le_right
  rw [e, BitVec.toNat_and, h2, wrap_small _ (by omega) (by omega)]
  omega

/-- The wide rules are alike. -/
theorem alike_wide {r : Rules} {k : Int} (hk : 0 < k) (ht : 0 < r.timeout) : Alike k r { r with interval := r.interval * k, timeout := r.timeout * k } := by
  have e : 0 < r.interval * k ↔ 0 < r.interval := by
    constructor
    · intro h
      rcases Int.lt_or_le 0 r.interval with x | x
      · exact x
      · have := Int.mul_le_mul_of_nonneg_right x (Int.le_of_lt hk)
        rw [Int.zero_mul] at this
        omega
    · intro h; exact Int.mul_pos h hk
  have p : 0 < r.timeout * k := Int.mul_pos ht hk
  refine ⟨hk, e, fun _ => Int.mul_comm _ _, ?_, rfl, fun _ => rfl, fun _ _ _ => rfl, fun _ _ _ => rfl⟩
  unfold timS
  dsimp only
  rw [if_neg (by omega), if_neg (by omega), Int.mul_comm]
theorem said_wide {r : Rules} {k start : Int} {l : List Act} {q : SPlay} (rok : r.Ok) (m0 : 0 ≤ r.most) (m1 : r.most < 4294967296) (hk : 0 < k) (ht : 0 < r.timeout) (h : areActs r start l = true) (hw : areActs { r with interval := r.interval * k, timeout := r.timeout * k } start (l.map (slow k)) = true) (hq : Said r start l q) :
    ∃ q', Said { r with interval := r.interval * k, timeout := r.timeout * k } start (l.map (slow k)) q' ∧ q'.out = q.out ∧ q'.s.chs = q.s.chs := by
  have e : k * start + (start - k * start) = start := by omega
  obtain ⟨h1, h2, _, h4, _⟩ := areActs_parts hw
  have := (said_alike (o := start - k * start) (alike_wide hk ht) ⟨rok.good0, rok.good1, rok.out0, rok.out1⟩ m0 m1 h h1 (by rw [e]; exact h2) h4 hq).2
  rw [e] at this
  exact this

set_option maxRecDepth 100000 in
set_option maxHeartbeats 8000000 in
theorem FnScale_any (r : Rules) (start : Int) (va : Value) (l : List Act) (x : Int) (w : World) (rok : r.Ok) (m0 : 0 ≤ r.most) (m1 : r.most < 4294967296) (ha : ActsAt w va l) :
    Calls Try.prog 8 #[rulesV r, .int .i64 start, va, .int .i64 x] w fun e w' => e = .returned (.bool true) ∧ Below w.heap.size w w' := by
  have HAT := Lib.hid ha
  obtain ⟨pa, cap, rfl, _⟩ := ha
  have RO := Lib.hid rok
  clear rok
  have hx := and4095 x
  obtain ⟨x0, x1⟩ := hx
  unfold rulesV
  by_cases hf : r.name.size ≤ 2147483647
  · by_cases hn : l.length ≤ 2147483647
    · have hnz : (l.length : Int) ≤ 2147483647 := by omega
      by_cases c1 : r.timeout ≤ 0
      · skip
        go_enter Try.func8, Try.ntmps8
        go_wp2_with fail
        refine (fits_yes r _ hf).mono ?_
        rintro e w2 ⟨rfl, hb2⟩
        have B2 := Lib.hid (((Below.refl _ _).alloc (Nat.le_refl _) _).trans (hb2.mono (by simp)) : Below w.heap.size w w2)
        have R2 := Lib.hid ((hb2.block w.heap.size (by simp)).trans (heap_alloc_new w (Obj.cells (rulesArr r) 24)))
        clear hb2
        have c2 : ∀ i, w2.cell? ⟨w.heap.size, i, none⟩ = #[.string r.name, .int .u32 r.most, .int .i64 r.interval, .int .i64 r.bucket, .int .i64 r.timeout, .int .i64 r.trip, .int .u32 r.bound, .bool r.hasGood, .int .u8 r.good, .bool r.hasOut, .int .u8 r.out][i]? := blk_cell R2.out
        have z2 := size_of_heap R2.out
        go_upto_region 4 with fail
        obtain ⟨k, hk⟩ : ∃ k, k = 1 + bits BinOp.and IntKind.i64 x 4095 := ⟨_, rfl⟩
        rw [← hk]
        have k0 : 1 ≤ k := by omega
        have k1 : k ≤ 4096 := by omega
        clear hk
        go_wp2_with fail
        refine (brWorks_any _).mono ?_
        rintro e wz ⟨rfl, hbz⟩
        go_wp2_with fail
        go_ret
        exact ⟨rfl, (B2.out.alloc B2.out.size _).trans (hbz.mono (by have := B2.out.size; simp; omega))⟩
      · by_cases c2 : 244140625000 < r.timeout
        · skip
          go_enter Try.func8, Try.ntmps8
          go_wp2_with fail
          refine (fits_yes r _ hf).mono ?_
          rintro e w2 ⟨rfl, hb2⟩
          have B2 := Lib.hid (((Below.refl _ _).alloc (Nat.le_refl _) _).trans (hb2.mono (by simp)) : Below w.heap.size w w2)
          have R2 := Lib.hid ((hb2.block w.heap.size (by simp)).trans (heap_alloc_new w (Obj.cells (rulesArr r) 24)))
          clear hb2
          have c2 : ∀ i, w2.cell? ⟨w.heap.size, i, none⟩ = #[.string r.name, .int .u32 r.most, .int .i64 r.interval, .int .i64 r.bucket, .int .i64 r.timeout, .int .i64 r.trip, .int .u32 r.bound, .bool r.hasGood, .int .u8 r.good, .bool r.hasOut, .int .u8 r.out][i]? := blk_cell R2.out
          have z2 := size_of_heap R2.out
          go_upto_region 4 with fail
          obtain ⟨k, hk⟩ : ∃ k, k = 1 + bits BinOp.and IntKind.i64 x 4095 := ⟨_, rfl⟩
          rw [← hk]
          have k0 : 1 ≤ k := by omega
          have k1 : k ≤ 4096 := by omega
          clear hk
          go_wp2_with fail
          refine (brWorks_any _).mono ?_
          rintro e wz ⟨rfl, hbz⟩
          go_wp2_with fail
          go_ret
          exact ⟨rfl, (B2.out.alloc B2.out.size _).trans (hbz.mono (by have := B2.out.size; simp; omega))⟩
        · by_cases c3 : 244140625000 < r.interval
          · skip
            go_enter Try.func8, Try.ntmps8
            go_wp2_with fail
            refine (fits_yes r _ hf).mono ?_
            rintro e w2 ⟨rfl, hb2⟩
            have B2 := Lib.hid (((Below.refl _ _).alloc (Nat.le_refl _) _).trans (hb2.mono (by simp)) : Below w.heap.size w w2)
            have R2 := Lib.hid ((hb2.block w.heap.size (by simp)).trans (heap_alloc_new w (Obj.cells (rulesArr r) 24)))
            clear hb2
            have c2 : ∀ i, w2.cell? ⟨w.heap.size, i, none⟩ = #[.string r.name, .int .u32 r.most, .int .i64 r.interval, .int .i64 r.bucket, .int .i64 r.timeout, .int .i64 r.trip, .int .u32 r.bound, .bool r.hasGood, .int .u8 r.good, .bool r.hasOut, .int .u8 r.out][i]? := blk_cell R2.out
            have z2 := size_of_heap R2.out
            go_upto_region 4 with fail
            obtain ⟨k, hk⟩ : ∃ k, k = 1 + bits BinOp.and IntKind.i64 x 4095 := ⟨_, rfl⟩
            rw [← hk]
            have k0 : 1 ≤ k := by omega
            have k1 : k ≤ 4096 := by omega
            clear hk
            go_wp2_with fail
            refine (brWorks_any _).mono ?_
            rintro e wz ⟨rfl, hbz⟩
            go_wp2_with fail
            go_ret
            exact ⟨rfl, (B2.out.alloc B2.out.size _).trans (hbz.mono (by have := B2.out.size; simp; omega))⟩
          · by_cases c4 : r.interval < -244140625000
            · skip
              go_enter Try.func8, Try.ntmps8
              go_wp2_with fail
              refine (fits_yes r _ hf).mono ?_
              rintro e w2 ⟨rfl, hb2⟩
              have B2 := Lib.hid (((Below.refl _ _).alloc (Nat.le_refl _) _).trans (hb2.mono (by simp)) : Below w.heap.size w w2)
              have R2 := Lib.hid ((hb2.block w.heap.size (by simp)).trans (heap_alloc_new w (Obj.cells (rulesArr r) 24)))
              clear hb2
              have c2 : ∀ i, w2.cell? ⟨w.heap.size, i, none⟩ = #[.string r.name, .int .u32 r.most, .int .i64 r.interval, .int .i64 r.bucket, .int .i64 r.timeout, .int .i64 r.trip, .int .u32 r.bound, .bool r.hasGood, .int .u8 r.good, .bool r.hasOut, .int .u8 r.out][i]? := blk_cell R2.out
              have z2 := size_of_heap R2.out
              go_upto_region 4 with fail
              obtain ⟨k, hk⟩ : ∃ k, k = 1 + bits BinOp.and IntKind.i64 x 4095 := ⟨_, rfl⟩
              rw [← hk]
              have k0 : 1 ≤ k := by omega
              have k1 : k ≤ 4096 := by omega
              clear hk
              go_wp2_with fail
              refine (brWorks_any _).mono ?_
              rintro e wz ⟨rfl, hbz⟩
              go_wp2_with fail
              go_ret
              exact ⟨rfl, (B2.out.alloc B2.out.size _).trans (hbz.mono (by have := B2.out.size; simp; omega))⟩
            · skip
              go_enter Try.func8, Try.ntmps8
              go_wp2_with fail
              refine (fits_yes r _ hf).mono ?_
              rintro e w2 ⟨rfl, hb2⟩
              have B2 := Lib.hid (((Below.refl _ _).alloc (Nat.le_refl _) _).trans (hb2.mono (by simp)) : Below w.heap.size w w2)
              have R2 := Lib.hid ((hb2.block w.heap.size (by simp)).trans (heap_alloc_new w (Obj.cells (rulesArr r) 24)))
              clear hb2
              have c2 : ∀ i, w2.cell? ⟨w.heap.size, i, none⟩ = #[.string r.name, .int .u32 r.most, .int .i64 r.interval, .int .i64 r.bucket, .int .i64 r.timeout, .int .i64 r.trip, .int .u32 r.bound, .bool r.hasGood, .int .u8 r.good, .bool r.hasOut, .int .u8 r.out][i]? := blk_cell R2.out
              have z2 := size_of_heap R2.out
              go_upto_region 4 with fail
              obtain ⟨k, hk⟩ : ∃ k, k = 1 + bits BinOp.and IntKind.i64 x 4095 := ⟨_, rfl⟩
              rw [← hk]
              have k0 : 1 ≤ k := by omega
              have k1 : k ≤ 4096 := by omega
              clear hk
              have p0 : 0 < r.timeout * k := Int.mul_pos (by omega) (by omega)
              have p1 : r.timeout * k ≤ 1000000000000000 := by
                have := Int.mul_le_mul (show r.timeout ≤ 244140625000 by omega) k1 (by omega) (by decide)
                omega
              have p2 : r.interval * k ≤ 1000000000000000 := by
                have := Int.mul_le_mul_of_nonneg_right (show r.interval ≤ 244140625000 by omega) (show (0 : Int) ≤ k by omega)
                omega
              have p3 : -1000000000000000 ≤ r.interval * k := by
                have := Int.mul_le_mul_of_nonneg_right (show -244140625000 ≤ r.interval by omega) (show (0 : Int) ≤ k by omega)
                omega
              go_upto_region 9 with fail
              obtain ⟨pi, hpi⟩ : ∃ y, y = r.interval * k := ⟨_, rfl⟩
              obtain ⟨pt, hpt⟩ : ∃ y, y = r.timeout * k := ⟨_, rfl⟩
              rw [← hpi, ← hpt]
              have PI := Lib.hid hpi
              have PT := Lib.hid hpt
              clear hpi hpt p0 p1 p2 p3
              have B3 := Lib.hid (B2.out.alloc B2.out.size (Obj.cells #[.string r.name, .int .u32 r.most, .int .i64 pi, .int .i64 r.bucket, .int .i64 pt, .int .i64 r.trip, .int .u32 r.bound, .bool r.hasGood, .int .u8 r.good, .bool r.hasOut, .int .u8 r.out] 24))
              have R3 := Lib.hid (heap_alloc_lt (o := Obj.cells #[.string r.name, .int .u32 r.most, .int .i64 pi, .int .i64 r.bucket, .int .i64 pt, .int .i64 r.trip, .int .u32 r.bound, .bool r.hasGood, .int .u8 r.good, .bool r.hasOut, .int .u8 r.out] 24) R2.out)
              have X3 := Lib.hid (heap_alloc_new w2 (Obj.cells #[.string r.name, .int .u32 r.most, .int .i64 pi, .int .i64 r.bucket, .int .i64 pt, .int .i64 r.trip, .int .u32 r.bound, .bool r.hasGood, .int .u8 r.good, .bool r.hasOut, .int .u8 r.out] 24))
              obtain ⟨b9, hb9⟩ : ∃ b9, b9 = w2.heap.size := ⟨_, rfl⟩
              rw [← hb9] at X3
              rw [← hb9]
              clear hb9 c2 z2
              generalize (w2.alloc (Obj.cells #[.string r.name, .int .u32 r.most, .int .i64 pi, .int .i64 r.bucket, .int .i64 pt, .int .i64 r.trip, .int .u32 r.bound, .bool r.hasGood, .int .u8 r.good, .bool r.hasOut, .int .u8 r.out] 24)) = w3 at *
              have p1 : ∀ i, w3.cell? ⟨w.heap.size, i, none⟩ = #[.string r.name, .int .u32 r.most, .int .i64 r.interval, .int .i64 r.bucket, .int .i64 r.timeout, .int .i64 r.trip, .int .u32 r.bound, .bool r.hasGood, .int .u8 r.good, .bool r.hasOut, .int .u8 r.out][i]? := blk_cell R3.out
              have p2 : ∀ i, w3.cell? ⟨b9, i, none⟩ = #[.string r.name, .int .u32 r.most, .int .i64 pi, .int .i64 r.bucket, .int .i64 pt, .int .i64 r.trip, .int .u32 r.bound, .bool r.hasGood, .int .u8 r.good, .bool r.hasOut, .int .u8 r.out][i]? := blk_cell X3.out
              cases hA : areActs r start l with
              | false =>
                have AA := Lib.hid hA
                clear hA
                refine wp_region_held_drew (S := fun w' => ∀ i, w'.cell? ⟨w.heap.size, i, none⟩ = #[.string r.name, .int .u32 r.most, .int .i64 r.interval, .int .i64 r.bucket, .int .i64 r.timeout, .int .i64 r.trip, .int .u32 r.bound, .bool r.hasGood, .int .u8 r.good, .bool r.hasOut, .int .u8 r.out][i]?) (by kernel_rfl) p1 (fun hHeld => ?_)
                refine wpAnyH_take (i := 0) (v := .agg #[.string r.name, .int .u32 r.most, .int .i64 r.interval, .int .i64 r.bucket, .int .i64 r.timeout, .int .i64 r.trip, .int .u32 r.bound, .bool r.hasGood, .int .u8 r.good, .bool r.hasOut, .int .u8 r.out]) rfl (by kernel_rfl) (by kernel_rfl) (by kernel_rfl) (fun _ _ _ h => h) (Or.inl ⟨by rfl, fun w' hSw => by (try dsimp only at hSw); go_simp⟩) hHeld ?_
                (try simp only [List.getElem_toArray, List.getElem_cons_zero, Act.put, List.setIfInBounds_toArray, List.set_cons_zero, List.set_cons_succ])
                refine wpAnyH_take (i := 1) (v := _) rfl (by kernel_rfl) (by kernel_rfl) (by kernel_rfl) (fun _ _ _ h => h) (Or.inl ⟨by rfl, fun _ _ => rfl⟩) hHeld ?_
                (try simp only [List.getElem_toArray, List.getElem_cons_succ, List.getElem_cons_zero, Act.put, List.setIfInBounds_toArray, List.set_cons_zero, List.set_cons_succ])
                refine wpAnyH_take (i := 2) (v := _) rfl (by kernel_rfl) (by kernel_rfl) (by kernel_rfl) (fun _ _ _ h => h) (Or.inl ⟨by rfl, fun _ _ => rfl⟩) hHeld ?_
                (try simp only [List.getElem_toArray, List.getElem_cons_succ, List.getElem_cons_zero, Act.put, List.setIfInBounds_toArray, List.set_cons_zero, List.set_cons_succ])
                refine wpAnyH_ready (rs := [3]) (by kernel_rfl) (by simp) ?_
                refine AllReadyH.cons rfl (fun K hK => ?_) AllReadyH.nil
                go_simp
                refine (areActs_any r start _ l w3.drew RO.out m0 m1 (HAT.out.below B3.out.drew)).mono ?_
                rintro e w4 ⟨rfl, hb4⟩
                rw [AA.out]
                have p4 : ∀ i, w4.cell? ⟨w.heap.size, i, none⟩ = #[.string r.name, .int .u32 r.most, .int .i64 r.interval, .int .i64 r.bucket, .int .i64 r.timeout, .int .i64 r.trip, .int .u32 r.bound, .bool r.hasGood, .int .u8 r.good, .bool r.hasOut, .int .u8 r.out][i]? := blk_cell ((hb4.block _ (size_of_heap (heap_drew R3.out))).trans (heap_drew R3.out))
                refine hK.out _ _ p4 (fun hHeld2 => ?_)
                clear hK K hHeld
                (try simp only [List.getElem_toArray, List.getElem_cons_succ, List.getElem_cons_zero, Act.put, List.setIfInBounds_toArray, List.set_cons_zero, List.set_cons_succ])
                refine wpAnyH_take (i := 4) (v := Value.bool true) rfl (by kernel_rfl) (by kernel_rfl) (by kernel_rfl) (fun _ _ _ h => h) (Or.inl ⟨by rfl, fun _ _ => by go_simp⟩) hHeld2 ?_
                (try simp only [List.getElem_toArray, List.getElem_cons_succ, List.getElem_cons_zero, Act.put, List.setIfInBounds_toArray, List.set_cons_zero, List.set_cons_succ])
                refine wpAnyH_take (i := 5) (v := _) rfl (by kernel_rfl) (by kernel_rfl) (by kernel_rfl) (fun _ _ _ h => h) (Or.inl ⟨by rfl, fun _ _ => rfl⟩) hHeld2 ?_
                (try simp only [List.getElem_toArray, List.getElem_cons_succ, List.getElem_cons_zero, Act.put, List.setIfInBounds_toArray, List.set_cons_zero, List.set_cons_succ])
                refine wpAnyH_take (i := 6) (v := undef) rfl (by kernel_rfl) (by kernel_rfl) (by kernel_rfl) (fun _ _ _ h => h) (Or.inr ⟨by kernel_rfl, rfl⟩) hHeld2 ?_
                (try simp only [List.getElem_toArray, List.getElem_cons_succ, List.getElem_cons_zero, Act.put, List.setIfInBounds_toArray, List.set_cons_zero, List.set_cons_succ])
                refine wpAnyH_take (i := 7) (v := undef) rfl (by kernel_rfl) (by kernel_rfl) (by kernel_rfl) (fun _ _ _ h => h) (Or.inr ⟨by kernel_rfl, rfl⟩) hHeld2 ?_
                (try simp only [List.getElem_toArray, List.getElem_cons_succ, List.getElem_cons_zero, Act.put, List.setIfInBounds_toArray, List.set_cons_zero, List.set_cons_succ])
                refine wpAnyH_take (i := 8) (v := undef) rfl (by kernel_rfl) (by kernel_rfl) (by kernel_rfl) (fun _ _ _ h => h) (Or.inr ⟨by kernel_rfl, rfl⟩) hHeld2 ?_
                (try simp only [List.getElem_toArray, List.getElem_cons_succ, List.getElem_cons_zero, Act.put, List.setIfInBounds_toArray, List.set_cons_zero, List.set_cons_succ])
                refine wpAnyH_take (i := 9) (v := undef) rfl (by kernel_rfl) (by kernel_rfl) (by kernel_rfl) (fun _ _ _ h => h) (Or.inr ⟨by kernel_rfl, rfl⟩) hHeld2 ?_
                (try simp only [List.getElem_toArray, List.getElem_cons_succ, List.getElem_cons_zero, Act.put, List.setIfInBounds_toArray, List.set_cons_zero, List.set_cons_succ])
                refine wpAnyH_take (i := 10) (v := undef) rfl (by kernel_rfl) (by kernel_rfl) (by kernel_rfl) (fun _ _ _ h => h) (Or.inr ⟨by kernel_rfl, rfl⟩) hHeld2 ?_
                (try simp only [List.getElem_toArray, List.getElem_cons_succ, List.getElem_cons_zero, Act.put, List.setIfInBounds_toArray, List.set_cons_zero, List.set_cons_succ])
                refine wpAnyH_take (i := 11) (v := undef) rfl (by kernel_rfl) (by kernel_rfl) (by kernel_rfl) (fun _ _ _ h => h) (Or.inr ⟨by kernel_rfl, rfl⟩) hHeld2 ?_
                (try simp only [List.getElem_toArray, List.getElem_cons_succ, List.getElem_cons_zero, Act.put, List.setIfInBounds_toArray, List.set_cons_zero, List.set_cons_succ])
                refine wpAnyH_take (i := 12) (v := undef) rfl (by kernel_rfl) (by kernel_rfl) (by kernel_rfl) (fun _ _ _ h => h) (Or.inr ⟨by kernel_rfl, rfl⟩) hHeld2 ?_
                (try simp only [List.getElem_toArray, List.getElem_cons_succ, List.getElem_cons_zero, Act.put, List.setIfInBounds_toArray, List.set_cons_zero, List.set_cons_succ])
                refine wpAnyH_take (i := 13) (v := Value.bool true) rfl (by kernel_rfl) (by kernel_rfl) (by kernel_rfl) (fun _ _ _ h => h) (Or.inl ⟨by rfl, fun _ _ => by go_simp⟩) hHeld2 ?_
                (try simp only [List.getElem_toArray, List.getElem_cons_succ, List.getElem_cons_zero, Act.put, List.setIfInBounds_toArray, List.set_cons_zero, List.set_cons_succ])
                refine wpAnyH_done (by kernel_rfl) ?_ _
                clear hHeld2 p4
                have B4 := Lib.hid (B3.out.drew.trans (hb4.mono B3.out.size))
                clear p1 p2
                go_wp2_with fail
                refine (brWorks_any _).mono ?_
                rintro e wz ⟨rfl, hbz⟩
                go_wp2_with fail
                go_ret
                exact ⟨rfl, B4.out.trans (hbz.mono B4.out.size)⟩
              | true =>
                have RW := Lib.hid (show Rules.Ok { r with interval := pi, timeout := pt } from ⟨RO.out.good0, RO.out.good1, RO.out.out0, RO.out.out1⟩)
                have AO := Lib.hid (areActs_parts hA).2.2.2.1
                have hsh := (areActs_parts hA).2.2.1
                cases hW : areActs { r with interval := pi, timeout := pt } start (l.map (slow k)) with
                | false =>
                  have AA := Lib.hid hA
                  have AW := Lib.hid hW
                  clear hA hW
                  go_region_held3 (fun w' => (∀ i, w'.cell? ⟨w.heap.size, i, none⟩ = #[.string r.name, .int .u32 r.most, .int .i64 r.interval, .int .i64 r.bucket, .int .i64 r.timeout, .int .i64 r.trip, .int .u32 r.bound, .bool r.hasGood, .int .u8 r.good, .bool r.hasOut, .int .u8 r.out][i]?) ∧ (∀ i, w'.cell? ⟨b9, i, none⟩ = #[.string r.name, .int .u32 r.most, .int .i64 pi, .int .i64 r.bucket, .int .i64 pt, .int .i64 r.trip, .int .u32 r.bound, .bool r.hasGood, .int .u8 r.good, .bool r.hasOut, .int .u8 r.out][i]?)) (first | ((try dsimp only); exact ⟨p1, p2⟩) | (go_keep; done))
                    ((first
                      | (go_at_call 17; refine (areActs_any ({ r with interval := pi, timeout := pt } : Rules) start _ (l.map (slow k)) w5 RW.out m0 m1 AT5.out).mono ?_; rintro e w6 ⟨rfl, hb6⟩; rw [AW.out]; have B6 := Lib.hid (B5.out.trans (hb6.mono B5.out.size)); have R6 := Lib.hid ((hb6.block _ (size_of_heap R5.out)).trans R5.out); have X6 := Lib.hid ((hb6.block _ (size_of_heap X5.out)).trans X5.out); clear p1 p2; have p1 : ∀ i, w6.cell? ⟨w.heap.size, i, none⟩ = #[.string r.name, .int .u32 r.most, .int .i64 r.interval, .int .i64 r.bucket, .int .i64 r.timeout, .int .i64 r.trip, .int .u32 r.bound, .bool r.hasGood, .int .u8 r.good, .bool r.hasOut, .int .u8 r.out][i]? := blk_cell R6.out; have p2 : ∀ i, w6.cell? ⟨b9, i, none⟩ = #[.string r.name, .int .u32 r.most, .int .i64 pi, .int .i64 r.bucket, .int .i64 pt, .int .i64 r.trip, .int .u32 r.bound, .bool r.hasGood, .int .u8 r.good, .bool r.hasOut, .int .u8 r.out][i]? := blk_cell X6.out)
                      | (go_at_call 17; refine (areActs_any r start _ l w3.drew RO.out m0 m1 (HAT.out.below B3.out.drew)).mono ?_; rintro e w4 ⟨rfl, hb4⟩; rw [AA.out]; have B4 := Lib.hid (B3.out.drew.trans (hb4.mono B3.out.size)); have R4 := Lib.hid ((hb4.block _ (size_of_heap R3.out)).trans R3.out); have X4 := Lib.hid ((hb4.block _ (size_of_heap X3.out)).trans X3.out); clear p1 p2; have p1 : ∀ i, w4.cell? ⟨w.heap.size, i, none⟩ = #[.string r.name, .int .u32 r.most, .int .i64 r.interval, .int .i64 r.bucket, .int .i64 r.timeout, .int .i64 r.trip, .int .u32 r.bound, .bool r.hasGood, .int .u8 r.good, .bool r.hasOut, .int .u8 r.out][i]? := blk_cell R4.out; have p2 : ∀ i, w4.cell? ⟨b9, i, none⟩ = #[.string r.name, .int .u32 r.most, .int .i64 pi, .int .i64 r.bucket, .int .i64 pt, .int .i64 r.trip, .int .u32 r.bound, .bool r.hasGood, .int .u8 r.good, .bool r.hasOut, .int .u8 r.out][i]? := blk_cell X4.out)
                      | (go_at_call 24; refine (later_any _ l k w4 (HAT.out.below B4.out) hsh AO.out k0 k1).mono ?_; rintro e w5 ⟨v5, rfl, ho5, hb5⟩; have B5 := Lib.hid (B4.out.trans (hb5.mono B4.out.size)); have R5 := Lib.hid ((hb5.block _ (size_of_heap R4.out)).trans R4.out); have X5 := Lib.hid ((hb5.block _ (size_of_heap X4.out)).trans X4.out); clear p1 p2; have p1 : ∀ i, w5.cell? ⟨w.heap.size, i, none⟩ = #[.string r.name, .int .u32 r.most, .int .i64 r.interval, .int .i64 r.bucket, .int .i64 r.timeout, .int .i64 r.trip, .int .u32 r.bound, .bool r.hasGood, .int .u8 r.good, .bool r.hasOut, .int .u8 r.out][i]? := blk_cell R5.out; have p2 : ∀ i, w5.cell? ⟨b9, i, none⟩ = #[.string r.name, .int .u32 r.most, .int .i64 pi, .int .i64 r.bucket, .int .i64 pt, .int .i64 r.trip, .int .u32 r.bound, .bool r.hasGood, .int .u8 r.good, .bool r.hasOut, .int .u8 r.out][i]? := blk_cell X5.out; have AT5 := Lib.hid (own_acts (l := l.map (slow k)) (by rw [List.length_map]; exact ho5)))))
                  go_wp2_with fail
                  refine (brWorks_any _).mono ?_
                  rintro e wz ⟨rfl, hbz⟩
                  go_wp2_with fail
                  go_ret
                  exact ⟨rfl, B6.out.trans (hbz.mono B6.out.size)⟩
                | true =>
                  obtain ⟨q, hq⟩ := said RO.out hA m0 m1
                  obtain ⟨q2, hq2, eo, ec⟩ := said_wide (k := k) RO.out m0 m1 (by omega) (by omega) hA (by rw [← PI.out, ← PT.out]; exact hW) hq
                  rw [← PI.out, ← PT.out] at hq2
                  have AA := Lib.hid hA
                  have AW := Lib.hid hW
                  have SA := Lib.hid hq
                  have SB := Lib.hid hq2
                  have EO := Lib.hid eo
                  have EC := Lib.hid ec
                  clear hA hW hq hq2 eo ec
                  go_region_held3 (fun w' => (∀ i, w'.cell? ⟨w.heap.size, i, none⟩ = #[.string r.name, .int .u32 r.most, .int .i64 r.interval, .int .i64 r.bucket, .int .i64 r.timeout, .int .i64 r.trip, .int .u32 r.bound, .bool r.hasGood, .int .u8 r.good, .bool r.hasOut, .int .u8 r.out][i]?) ∧ (∀ i, w'.cell? ⟨b9, i, none⟩ = #[.string r.name, .int .u32 r.most, .int .i64 pi, .int .i64 r.bucket, .int .i64 pt, .int .i64 r.trip, .int .u32 r.bound, .bool r.hasGood, .int .u8 r.good, .bool r.hasOut, .int .u8 r.out][i]?)) (first | ((try dsimp only); exact ⟨p1, p2⟩) | (go_keep; done))
                    ((first
                      | (go_at_call 17; refine (areActs_any ({ r with interval := pi, timeout := pt } : Rules) start _ (l.map (slow k)) w5 RW.out m0 m1 AT5.out).mono ?_; rintro e w6 ⟨rfl, hb6⟩; rw [AW.out]; have B6 := Lib.hid (B5.out.trans (hb6.mono B5.out.size)); have R6 := Lib.hid ((hb6.block _ (size_of_heap R5.out)).trans R5.out); have X6 := Lib.hid ((hb6.block _ (size_of_heap X5.out)).trans X5.out); clear p1 p2; have p1 : ∀ i, w6.cell? ⟨w.heap.size, i, none⟩ = #[.string r.name, .int .u32 r.most, .int .i64 r.interval, .int .i64 r.bucket, .int .i64 r.timeout, .int .i64 r.trip, .int .u32 r.bound, .bool r.hasGood, .int .u8 r.good, .bool r.hasOut, .int .u8 r.out][i]? := blk_cell R6.out; have p2 : ∀ i, w6.cell? ⟨b9, i, none⟩ = #[.string r.name, .int .u32 r.most, .int .i64 pi, .int .i64 r.bucket, .int .i64 pt, .int .i64 r.trip, .int .u32 r.bound, .bool r.hasGood, .int .u8 r.good, .bool r.hasOut, .int .u8 r.out][i]? := blk_cell X6.out)
                      | (go_at_call 17; refine (areActs_any r start _ l w3.drew RO.out m0 m1 (HAT.out.below B3.out.drew)).mono ?_; rintro e w4 ⟨rfl, hb4⟩; rw [AA.out]; have B4 := Lib.hid (B3.out.drew.trans (hb4.mono B3.out.size)); have R4 := Lib.hid ((hb4.block _ (size_of_heap R3.out)).trans R3.out); have X4 := Lib.hid ((hb4.block _ (size_of_heap X3.out)).trans X3.out); clear p1 p2; have p1 : ∀ i, w4.cell? ⟨w.heap.size, i, none⟩ = #[.string r.name, .int .u32 r.most, .int .i64 r.interval, .int .i64 r.bucket, .int .i64 r.timeout, .int .i64 r.trip, .int .u32 r.bound, .bool r.hasGood, .int .u8 r.good, .bool r.hasOut, .int .u8 r.out][i]? := blk_cell R4.out; have p2 : ∀ i, w4.cell? ⟨b9, i, none⟩ = #[.string r.name, .int .u32 r.most, .int .i64 pi, .int .i64 r.bucket, .int .i64 pt, .int .i64 r.trip, .int .u32 r.bound, .bool r.hasGood, .int .u8 r.good, .bool r.hasOut, .int .u8 r.out][i]? := blk_cell X4.out)
                      | (go_at_call 24; refine (later_any _ l k w4 (HAT.out.below B4.out) hsh AO.out k0 k1).mono ?_; rintro e w5 ⟨v5, rfl, ho5, hb5⟩; have B5 := Lib.hid (B4.out.trans (hb5.mono B4.out.size)); have R5 := Lib.hid ((hb5.block _ (size_of_heap R4.out)).trans R4.out); have X5 := Lib.hid ((hb5.block _ (size_of_heap X4.out)).trans X4.out); clear p1 p2; have p1 : ∀ i, w5.cell? ⟨w.heap.size, i, none⟩ = #[.string r.name, .int .u32 r.most, .int .i64 r.interval, .int .i64 r.bucket, .int .i64 r.timeout, .int .i64 r.trip, .int .u32 r.bound, .bool r.hasGood, .int .u8 r.good, .bool r.hasOut, .int .u8 r.out][i]? := blk_cell R5.out; have p2 : ∀ i, w5.cell? ⟨b9, i, none⟩ = #[.string r.name, .int .u32 r.most, .int .i64 pi, .int .i64 r.bucket, .int .i64 pt, .int .i64 r.trip, .int .u32 r.bound, .bool r.hasGood, .int .u8 r.good, .bool r.hasOut, .int .u8 r.out][i]? := blk_cell X5.out; have AT5 := Lib.hid (own_acts (l := l.map (slow k)) (by rw [List.length_map]; exact ho5)))))
                  clear hb4 ho5 hb5 hb6
                  go_wp2_with fail
                  refine (SA.out.play _ _ (HAT.out.below B6.out)).mono ?_
                  rintro e w7 ⟨vo, vc, rfl, ho, hc, hb7⟩
                  have B7 := Lib.hid (B6.out.trans (hb7.mono B6.out.size))
                  have X7 := Lib.hid ((hb7.block _ (size_of_heap X6.out)).trans X6.out)
                  have HO := Lib.hid ho
                  have HC := Lib.hid hc
                  clear ho hc hb7 p1 p2
                  have p2 : ∀ i, w7.cell? ⟨b9, i, none⟩ = #[.string r.name, .int .u32 r.most, .int .i64 pi, .int .i64 r.bucket, .int .i64 pt, .int .i64 r.trip, .int .u32 r.bound, .bool r.hasGood, .int .u8 r.good, .bool r.hasOut, .int .u8 r.out][i]? := blk_cell X7.out
                  go_upto_region 12 with fail
                  go_region_held3 (fun w' => ∀ i, w'.cell? ⟨b9, i, none⟩ = #[.string r.name, .int .u32 r.most, .int .i64 pi, .int .i64 r.bucket, .int .i64 pt, .int .i64 r.trip, .int .u32 r.bound, .bool r.hasGood, .int .u8 r.good, .bool r.hasOut, .int .u8 r.out][i]?) (first | ((try dsimp only); exact p2) | (go_keep; done))
                    ((first
                      | (go_at_call 24; refine (later_any _ l k _ (HAT.out.below (by first | exact B7.out.drew | exact B7.out)) hsh AO.out k0 k1).mono ?_; rintro e w8 ⟨v8, rfl, ho8, hb8⟩; have B8 := Lib.hid (B7.out.drew.trans (hb8.mono B7.out.size)); have X8 := Lib.hid ((hb8.block _ (size_of_heap X7.out)).trans X7.out); clear p2; have p2 : ∀ i, w8.cell? ⟨b9, i, none⟩ = #[.string r.name, .int .u32 r.most, .int .i64 pi, .int .i64 r.bucket, .int .i64 pt, .int .i64 r.trip, .int .u32 r.bound, .bool r.hasGood, .int .u8 r.good, .bool r.hasOut, .int .u8 r.out][i]? := blk_cell X8.out; have AT8 := Lib.hid (own_acts (l := l.map (slow k)) (by rw [List.length_map]; exact ho8)); have HO8 := Lib.hid (own_below HO.out.drew hb8); have HC8 := Lib.hid (own_below HC.out.drew hb8))
                      | (go_at_call 19; refine (SB.out.play _ _ AT8.out).mono ?_; rintro e w9 ⟨vo2, vc2, rfl, ho2, hc2, hb9⟩; rw [EO.out] at ho2; rw [EC.out] at hc2; have HO2 := Lib.hid ho2; have HC2 := Lib.hid hc2; have HO3 := Lib.hid (own_below HO8.out hb9); have HC3 := Lib.hid (own_below HC8.out hb9); have B9 := Lib.hid (B8.out.trans (hb9.mono B8.out.size)); clear p2; have p2 : ∀ i, w9.cell? ⟨b9, i, none⟩ = #[.string r.name, .int .u32 r.most, .int .i64 pi, .int .i64 r.bucket, .int .i64 pt, .int .i64 r.trip, .int .u32 r.bound, .bool r.hasGood, .int .u8 r.good, .bool r.hasOut, .int .u8 r.out][i]? := blk_cell ((hb9.block _ (size_of_heap X8.out)).trans X8.out))))
                  clear ho8 hb8 ho2 hc2 p2 hb9
                  obtain ⟨pq, kq, rfl⟩ := row_len HO3.out
                  have elen : (q.out.length : Int) = (l.length : Int) := by rw [SA.out.len]
                  go_wp2_with fail
                  refine (brBoth_any _ _ _ _ q.out q.s.chs _ _ _ _ _ HO3.out HC3.out HO2.out HC2.out (by have := SA.out.len; have := SA.out.short; omega) (by have := SA.out.chs; omega)).mono ?_
                  rintro e wb ⟨rfl, hbb⟩
                  have BB := Lib.hid (B9.out.trans (hbb.mono B9.out.size))
                  clear hbb
                  go_wp2_with fail
                  refine (brWorks_any _).mono ?_
                  rintro e wz ⟨rfl, hbz⟩
                  go_wp2_with fail
                  go_ret
                  exact ⟨rfl, BB.out.trans (hbz.mono BB.out.size)⟩
    · have hnz : ¬ ((l.length : Int) ≤ 2147483647) := by omega
      go_enter Try.func8, Try.ntmps8
      go_wp2_with fail
      refine (fits_yes r _ hf).mono ?_
      rintro e w2 ⟨rfl, hb2⟩
      have B2 := Lib.hid (((Below.refl _ _).alloc (Nat.le_refl _) _).trans (hb2.mono (by simp)) : Below w.heap.size w w2)
      have R2 := Lib.hid ((hb2.block w.heap.size (by simp)).trans (heap_alloc_new w (Obj.cells (rulesArr r) 24)))
      clear hb2
      have c2 : ∀ i, w2.cell? ⟨w.heap.size, i, none⟩ = #[.string r.name, .int .u32 r.most, .int .i64 r.interval, .int .i64 r.bucket, .int .i64 r.timeout, .int .i64 r.trip, .int .u32 r.bound, .bool r.hasGood, .int .u8 r.good, .bool r.hasOut, .int .u8 r.out][i]? := blk_cell R2.out
      have z2 := size_of_heap R2.out
      go_wp2_with fail
      go_ret
      exact ⟨rfl, B2.out⟩
  · skip
    go_enter Try.func8, Try.ntmps8
    go_wp2_with fail
    refine (fits_no r _ hf).mono ?_
    rintro e w2 ⟨rfl, hb2⟩
    have B2 := Lib.hid (((Below.refl _ _).alloc (Nat.le_refl _) _).trans (hb2.mono (by simp)) : Below w.heap.size w w2)
    have R2 := Lib.hid ((hb2.block w.heap.size (by simp)).trans (heap_alloc_new w (Obj.cells (rulesArr r) 24)))
    clear hb2
    go_wp2_with fail
    go_ret
    exact ⟨rfl, B2.out⟩
theorem fnScale_row (r : Rules) (start : Int) (va : Value) (l : List Act) (x : Int) (w : World) (h : RulesIn r) (_ : IntKind.i64.min ≤ start ∧ start ≤ IntKind.i64.max) (ha : ActsAt w va l) (_ : IntKind.i64.min ≤ x ∧ x ≤ IntKind.i64.max) :
    Calls Try.prog 8 #[rulesV r, .int .i64 start, va, .int .i64 x] w fun e w' => e = .returned (.bool true) ∧ Below w.heap.size w w' := FnScale_any r start va l x w h.ok h.m0 h.m1 ha

end Go.Proofs.Ytcjklacfoldaoaa
