/- The law FnNoTimes as a contract: it is true. Conditions: the acts can be read, the rules' numbers are in their types' ranges. -/
import Derived.Test.YtcjklacfoldaoaaPartB
import Derived.Test.YtcjklacfoldaoaaOpen
namespace Go.Proofs.Ytcjklacfoldaoaa
open Go.RowKit
attribute [local go_sem ↓] Go.wp_at_zero Go.wp_at_succ

theorem row_high {w w' : World} {base : Nat} {e : TypeId} {size n k : Nat} {v : Value} {xs : List Value} (h : w.ownsRow base e size v n xs) (hk : k < base) (m : Mod [k] w w') : w'.ownsRow base e size v n xs :=
  owns_keep h fun g hg => m.block g (h.lt g hg).2 (by have := (h.lt g hg).1; simp; omega)

set_option maxRecDepth 100000 in
set_option maxHeartbeats 4000000 in
theorem FnNoTimes_any (r : Rules) (start : Int) (va : Value) (l : List Act) (i t : Int) (w : World) (rok : r.Ok) (m0 : 0 ≤ r.most) (m1 : r.most < 4294967296) (ha : ActsAt w va l) :
    Calls Try.prog 7 #[rulesV r, .int .i64 start, va, .int .i64 i, .int .i64 t] w fun e w' => e = .returned (.bool true) ∧ Below w.heap.size w w' := by
  have HAT := Lib.hid ha
  obtain ⟨pa, cap, rfl, _⟩ := ha
  have RO := Lib.hid (show Rules.Ok { r with interval := 0, timeout := 0 } from ⟨rok.good0, rok.good1, rok.out0, rok.out1⟩)
  have RK := Lib.hid rok
  clear rok
  unfold rulesV
  by_cases hf : r.name.size ≤ 2147483647
  · by_cases hn : l.length ≤ 2147483647
    · have hnz : (l.length : Int) ≤ 2147483647 := by omega
      cases hA : areActs { r with interval := 0, timeout := 0 } start l with
      | false =>
        have AA := Lib.hid hA
        clear hA
        go_enter Try.func7, Try.ntmps7
        go_wp2_with fail
        refine (fits_yes r _ hf).mono ?_
        rintro e w2 ⟨rfl, hb2⟩
        have B2 := Lib.hid (((Below.refl _ _).alloc (Nat.le_refl _) _).trans (hb2.mono (by simp)) : Below w.heap.size w w2)
        have R2 := Lib.hid ((hb2.block w.heap.size (by simp)).trans (heap_alloc_new w (Obj.cells (rulesArr r) 24)))
        clear hb2
        have c2 : ∀ j, w2.cell? ⟨w.heap.size, j, none⟩ = #[.string r.name, .int .u32 r.most, .int .i64 r.interval, .int .i64 r.bucket, .int .i64 r.timeout, .int .i64 r.trip, .int .u32 r.bound, .bool r.hasGood, .int .u8 r.good, .bool r.hasOut, .int .u8 r.out][j]? := blk_cell R2.out
        have f2 : ∀ j, w2.frozen? ⟨w.heap.size, j, none⟩ = false := blk_free R2.out
        have z2 := size_of_heap R2.out
        go_upto_region 4 with fail
        have B3 := Lib.hid ((B2.out.setCell (p := ⟨w.heap.size, 2, none⟩) (Nat.le_refl _) (.int .i64 0)).setCell (p := ⟨w.heap.size, 4, none⟩) (Nat.le_refl _) (.int .i64 0))
        have R3 := Lib.hid (show ((w2.setCell ⟨w.heap.size, 2, none⟩ (.int .i64 0)).setCell ⟨w.heap.size, 4, none⟩ (.int .i64 0)).heap[w.heap.size]? = some (Obj.cells (rulesArr { r with interval := 0, timeout := 0 }) 24 (0, 0)) from (heap_set_same (heap_set_same R2.out)).trans (by simp [rulesArr]))
        clear c2 z2 f2
        generalize ((w2.setCell ⟨w.heap.size, 2, none⟩ (.int .i64 0)).setCell ⟨w.heap.size, 4, none⟩ (.int .i64 0)) = w3 at *
        have c3 : ∀ j, w3.cell? ⟨w.heap.size, j, none⟩ = #[.string r.name, .int .u32 r.most, .int .i64 0, .int .i64 r.bucket, .int .i64 0, .int .i64 r.trip, .int .u32 r.bound, .bool r.hasGood, .int .u8 r.good, .bool r.hasOut, .int .u8 r.out][j]? := blk_cell R3.out
        have f3 : ∀ j, w3.frozen? ⟨w.heap.size, j, none⟩ = false := blk_free R3.out
        have z3 := size_of_heap R3.out
        go_wp2_with fail
        refine (areActs_any { r with interval := 0, timeout := 0 } start _ l _ RO.out m0 m1 (HAT.out.below B3.out)).mono ?_
        rintro e w4 ⟨rfl, hb4⟩
        rw [AA.out]
        have B4 := Lib.hid (B3.out.trans (hb4.mono B3.out.size))
        have R4 := Lib.hid ((hb4.block w.heap.size (size_of_heap R3.out)).trans R3.out)
        clear hb4 c3 z3 f3
        have c4 : ∀ j, w4.cell? ⟨w.heap.size, j, none⟩ = #[.string r.name, .int .u32 r.most, .int .i64 0, .int .i64 r.bucket, .int .i64 0, .int .i64 r.trip, .int .u32 r.bound, .bool r.hasGood, .int .u8 r.good, .bool r.hasOut, .int .u8 r.out][j]? := blk_cell R4.out
        have f4 : ∀ j, w4.frozen? ⟨w.heap.size, j, none⟩ = false := blk_free R4.out
        have z4 := size_of_heap R4.out
        go_wp2_with fail
        refine (brWorks_any _).mono ?_
        rintro e wz ⟨rfl, hbz⟩
        go_wp2_with fail
        go_ret
        exact ⟨rfl, B4.out.trans (hbz.mono B4.out.size)⟩
      | true =>
        by_cases hi : i ≤ 0
        · by_cases ht : t ≤ 0
          · cases hti : isTime i with
            | false =>
              have AA := Lib.hid hA
              have TI := Lib.hid hti
              clear hA hti
              go_enter Try.func7, Try.ntmps7
              go_wp2_with fail
              refine (fits_yes r _ hf).mono ?_
              rintro e w2 ⟨rfl, hb2⟩
              have B2 := Lib.hid (((Below.refl _ _).alloc (Nat.le_refl _) _).trans (hb2.mono (by simp)) : Below w.heap.size w w2)
              have R2 := Lib.hid ((hb2.block w.heap.size (by simp)).trans (heap_alloc_new w (Obj.cells (rulesArr r) 24)))
              clear hb2
              have c2 : ∀ j, w2.cell? ⟨w.heap.size, j, none⟩ = #[.string r.name, .int .u32 r.most, .int .i64 r.interval, .int .i64 r.bucket, .int .i64 r.timeout, .int .i64 r.trip, .int .u32 r.bound, .bool r.hasGood, .int .u8 r.good, .bool r.hasOut, .int .u8 r.out][j]? := blk_cell R2.out
              have f2 : ∀ j, w2.frozen? ⟨w.heap.size, j, none⟩ = false := blk_free R2.out
              have z2 := size_of_heap R2.out
              go_upto_region 4 with fail
              have B3 := Lib.hid ((B2.out.setCell (p := ⟨w.heap.size, 2, none⟩) (Nat.le_refl _) (.int .i64 0)).setCell (p := ⟨w.heap.size, 4, none⟩) (Nat.le_refl _) (.int .i64 0))
              have R3 := Lib.hid (show ((w2.setCell ⟨w.heap.size, 2, none⟩ (.int .i64 0)).setCell ⟨w.heap.size, 4, none⟩ (.int .i64 0)).heap[w.heap.size]? = some (Obj.cells (rulesArr { r with interval := 0, timeout := 0 }) 24 (0, 0)) from (heap_set_same (heap_set_same R2.out)).trans (by simp [rulesArr]))
              clear c2 z2 f2
              generalize ((w2.setCell ⟨w.heap.size, 2, none⟩ (.int .i64 0)).setCell ⟨w.heap.size, 4, none⟩ (.int .i64 0)) = w3 at *
              have c3 : ∀ j, w3.cell? ⟨w.heap.size, j, none⟩ = #[.string r.name, .int .u32 r.most, .int .i64 0, .int .i64 r.bucket, .int .i64 0, .int .i64 r.trip, .int .u32 r.bound, .bool r.hasGood, .int .u8 r.good, .bool r.hasOut, .int .u8 r.out][j]? := blk_cell R3.out
              have f3 : ∀ j, w3.frozen? ⟨w.heap.size, j, none⟩ = false := blk_free R3.out
              have z3 := size_of_heap R3.out
              go_wp2_with fail
              refine (areActs_any { r with interval := 0, timeout := 0 } start _ l _ RO.out m0 m1 (HAT.out.below B3.out)).mono ?_
              rintro e w4 ⟨rfl, hb4⟩
              rw [AA.out]
              have B4 := Lib.hid (B3.out.trans (hb4.mono B3.out.size))
              have R4 := Lib.hid ((hb4.block w.heap.size (size_of_heap R3.out)).trans R3.out)
              clear hb4 c3 z3 f3
              have c4 : ∀ j, w4.cell? ⟨w.heap.size, j, none⟩ = #[.string r.name, .int .u32 r.most, .int .i64 0, .int .i64 r.bucket, .int .i64 0, .int .i64 r.trip, .int .u32 r.bound, .bool r.hasGood, .int .u8 r.good, .bool r.hasOut, .int .u8 r.out][j]? := blk_cell R4.out
              have f4 : ∀ j, w4.frozen? ⟨w.heap.size, j, none⟩ = false := blk_free R4.out
              have z4 := size_of_heap R4.out
              go_wp2_with fail
              refine (isTime_any i _).mono ?_
              rintro e wt ⟨rfl, rfl⟩
              rw [TI.out]
              go_wp2_with fail
              refine (brWorks_any _).mono ?_
              rintro e wz ⟨rfl, hbz⟩
              go_wp2_with fail
              go_ret
              exact ⟨rfl, B4.out.trans (hbz.mono B4.out.size)⟩
            | true =>
              cases htt : isTime t with
              | false =>
                have AA := Lib.hid hA
                have TI := Lib.hid hti
                have TT := Lib.hid htt
                clear hA hti htt
                go_enter Try.func7, Try.ntmps7
                go_wp2_with fail
                refine (fits_yes r _ hf).mono ?_
                rintro e w2 ⟨rfl, hb2⟩
                have B2 := Lib.hid (((Below.refl _ _).alloc (Nat.le_refl _) _).trans (hb2.mono (by simp)) : Below w.heap.size w w2)
                have R2 := Lib.hid ((hb2.block w.heap.size (by simp)).trans (heap_alloc_new w (Obj.cells (rulesArr r) 24)))
                clear hb2
                have c2 : ∀ j, w2.cell? ⟨w.heap.size, j, none⟩ = #[.string r.name, .int .u32 r.most, .int .i64 r.interval, .int .i64 r.bucket, .int .i64 r.timeout, .int .i64 r.trip, .int .u32 r.bound, .bool r.hasGood, .int .u8 r.good, .bool r.hasOut, .int .u8 r.out][j]? := blk_cell R2.out
                have f2 : ∀ j, w2.frozen? ⟨w.heap.size, j, none⟩ = false := blk_free R2.out
                have z2 := size_of_heap R2.out
                go_upto_region 4 with fail
                have B3 := Lib.hid ((B2.out.setCell (p := ⟨w.heap.size, 2, none⟩) (Nat.le_refl _) (.int .i64 0)).setCell (p := ⟨w.heap.size, 4, none⟩) (Nat.le_refl _) (.int .i64 0))
                have R3 := Lib.hid (show ((w2.setCell ⟨w.heap.size, 2, none⟩ (.int .i64 0)).setCell ⟨w.heap.size, 4, none⟩ (.int .i64 0)).heap[w.heap.size]? = some (Obj.cells (rulesArr { r with interval := 0, timeout := 0 }) 24 (0, 0)) from (heap_set_same (heap_set_same R2.out)).trans (by simp [rulesArr]))
                clear c2 z2 f2
                generalize ((w2.setCell ⟨w.heap.size, 2, none⟩ (.int .i64 0)).setCell ⟨w.heap.size, 4, none⟩ (.int .i64 0)) = w3 at *
                have c3 : ∀ j, w3.cell? ⟨w.heap.size, j, none⟩ = #[.string r.name, .int .u32 r.most, .int .i64 0, .int .i64 r.bucket, .int .i64 0, .int .i64 r.trip, .int .u32 r.bound, .bool r.hasGood, .int .u8 r.good, .bool r.hasOut, .int .u8 r.out][j]? := blk_cell R3.out
                have f3 : ∀ j, w3.frozen? ⟨w.heap.size, j, none⟩ = false := blk_free R3.out
                have z3 := size_of_heap R3.out
                go_wp2_with fail
                refine (areActs_any { r with interval := 0, timeout := 0 } start _ l _ RO.out m0 m1 (HAT.out.below B3.out)).mono ?_
                rintro e w4 ⟨rfl, hb4⟩
                rw [AA.out]
                have B4 := Lib.hid (B3.out.trans (hb4.mono B3.out.size))
                have R4 := Lib.hid ((hb4.block w.heap.size (size_of_heap R3.out)).trans R3.out)
                clear hb4 c3 z3 f3
                have c4 : ∀ j, w4.cell? ⟨w.heap.size, j, none⟩ = #[.string r.name, .int .u32 r.most, .int .i64 0, .int .i64 r.bucket, .int .i64 0, .int .i64 r.trip, .int .u32 r.bound, .bool r.hasGood, .int .u8 r.good, .bool r.hasOut, .int .u8 r.out][j]? := blk_cell R4.out
                have f4 : ∀ j, w4.frozen? ⟨w.heap.size, j, none⟩ = false := blk_free R4.out
                have z4 := size_of_heap R4.out
                go_wp2_with fail
                refine (isTime_any i _).mono ?_
                rintro e wt ⟨rfl, rfl⟩
                rw [TI.out]
                go_wp2_with fail
                refine (isTime_any t _).mono ?_
                rintro e wt ⟨rfl, rfl⟩
                rw [TT.out]
                go_wp2_with fail
                refine (brWorks_any _).mono ?_
                rintro e wz ⟨rfl, hbz⟩
                go_wp2_with fail
                go_ret
                exact ⟨rfl, B4.out.trans (hbz.mono B4.out.size)⟩
              | true =>
                have AA := Lib.hid hA
                obtain ⟨q, hq⟩ := said RO.out hA m0 m1
                obtain ⟨q2, hq2, eo, ec⟩ := said_none RK.out m0 m1 hA hi ht hti htt hq
                have TI := Lib.hid hti
                have TT := Lib.hid htt
                have SA := Lib.hid hq
                have SB := Lib.hid hq2
                have EO := Lib.hid eo
                have EC := Lib.hid ec
                clear hA hq hti htt hq2 eo ec
                go_enter Try.func7, Try.ntmps7
                go_wp2_with fail
                refine (fits_yes r _ hf).mono ?_
                rintro e w2 ⟨rfl, hb2⟩
                have B2 := Lib.hid (((Below.refl _ _).alloc (Nat.le_refl _) _).trans (hb2.mono (by simp)) : Below w.heap.size w w2)
                have R2 := Lib.hid ((hb2.block w.heap.size (by simp)).trans (heap_alloc_new w (Obj.cells (rulesArr r) 24)))
                clear hb2
                have c2 : ∀ j, w2.cell? ⟨w.heap.size, j, none⟩ = #[.string r.name, .int .u32 r.most, .int .i64 r.interval, .int .i64 r.bucket, .int .i64 r.timeout, .int .i64 r.trip, .int .u32 r.bound, .bool r.hasGood, .int .u8 r.good, .bool r.hasOut, .int .u8 r.out][j]? := blk_cell R2.out
                have f2 : ∀ j, w2.frozen? ⟨w.heap.size, j, none⟩ = false := blk_free R2.out
                have z2 := size_of_heap R2.out
                go_upto_region 4 with fail
                have B3 := Lib.hid ((B2.out.setCell (p := ⟨w.heap.size, 2, none⟩) (Nat.le_refl _) (.int .i64 0)).setCell (p := ⟨w.heap.size, 4, none⟩) (Nat.le_refl _) (.int .i64 0))
                have R3 := Lib.hid (show ((w2.setCell ⟨w.heap.size, 2, none⟩ (.int .i64 0)).setCell ⟨w.heap.size, 4, none⟩ (.int .i64 0)).heap[w.heap.size]? = some (Obj.cells (rulesArr { r with interval := 0, timeout := 0 }) 24 (0, 0)) from (heap_set_same (heap_set_same R2.out)).trans (by simp [rulesArr]))
                clear c2 z2 f2
                generalize ((w2.setCell ⟨w.heap.size, 2, none⟩ (.int .i64 0)).setCell ⟨w.heap.size, 4, none⟩ (.int .i64 0)) = w3 at *
                have c3 : ∀ j, w3.cell? ⟨w.heap.size, j, none⟩ = #[.string r.name, .int .u32 r.most, .int .i64 0, .int .i64 r.bucket, .int .i64 0, .int .i64 r.trip, .int .u32 r.bound, .bool r.hasGood, .int .u8 r.good, .bool r.hasOut, .int .u8 r.out][j]? := blk_cell R3.out
                have f3 : ∀ j, w3.frozen? ⟨w.heap.size, j, none⟩ = false := blk_free R3.out
                have z3 := size_of_heap R3.out
                go_wp2_with fail
                refine (areActs_any { r with interval := 0, timeout := 0 } start _ l _ RO.out m0 m1 (HAT.out.below B3.out)).mono ?_
                rintro e w4 ⟨rfl, hb4⟩
                rw [AA.out]
                have B4 := Lib.hid (B3.out.trans (hb4.mono B3.out.size))
                have R4 := Lib.hid ((hb4.block w.heap.size (size_of_heap R3.out)).trans R3.out)
                clear hb4 c3 z3 f3
                have c4 : ∀ j, w4.cell? ⟨w.heap.size, j, none⟩ = #[.string r.name, .int .u32 r.most, .int .i64 0, .int .i64 r.bucket, .int .i64 0, .int .i64 r.trip, .int .u32 r.bound, .bool r.hasGood, .int .u8 r.good, .bool r.hasOut, .int .u8 r.out][j]? := blk_cell R4.out
                have f4 : ∀ j, w4.frozen? ⟨w.heap.size, j, none⟩ = false := blk_free R4.out
                have z4 := size_of_heap R4.out
                go_wp2_with fail
                refine (isTime_any i _).mono ?_
                rintro e wt ⟨rfl, rfl⟩
                rw [TI.out]
                go_wp2_with fail
                refine (isTime_any t _).mono ?_
                rintro e wt ⟨rfl, rfl⟩
                rw [TT.out]
                go_wp2_with fail
                refine (SA.out.play _ _ (HAT.out.below B4.out)).mono ?_
                rintro e w5 ⟨vo, vc, rfl, ho, hc, hb5⟩
                have B5 := Lib.hid (B4.out.trans (hb5.mono B4.out.size))
                have R5 := Lib.hid ((hb5.block w.heap.size (size_of_heap R4.out)).trans R4.out)
                clear hb5 c4 z4 f4
                have c5 : ∀ j, w5.cell? ⟨w.heap.size, j, none⟩ = #[.string r.name, .int .u32 r.most, .int .i64 0, .int .i64 r.bucket, .int .i64 0, .int .i64 r.trip, .int .u32 r.bound, .bool r.hasGood, .int .u8 r.good, .bool r.hasOut, .int .u8 r.out][j]? := blk_cell R5.out
                have f5 : ∀ j, w5.frozen? ⟨w.heap.size, j, none⟩ = false := blk_free R5.out
                have z5 := size_of_heap R5.out
                have HO := Lib.hid ho
                have HC := Lib.hid hc
                have HZ := Lib.hid (size_of_heap R4.out)
                clear ho hc
                go_upto_region 8 with fail
                have B6 := Lib.hid ((B5.out.setCell (p := ⟨w.heap.size, 2, none⟩) (Nat.le_refl _) (.int .i64 i)).setCell (p := ⟨w.heap.size, 4, none⟩) (Nat.le_refl _) (.int .i64 t))
                have R6 := Lib.hid (show ((w5.setCell ⟨w.heap.size, 2, none⟩ (.int .i64 i)).setCell ⟨w.heap.size, 4, none⟩ (.int .i64 t)).heap[w.heap.size]? = some (Obj.cells (rulesArr { r with interval := i, timeout := t }) 24 (0, 0)) from (heap_set_same (heap_set_same R5.out)).trans (by simp [rulesArr]))
                have M6 := Lib.hid (((Mod.refl [w.heap.size] w5).setCell ⟨w.heap.size, 2, none⟩ (.int .i64 i) (by simp)).setCell ⟨w.heap.size, 4, none⟩ (.int .i64 t) (by simp))
                have HO6 := Lib.hid (row_high HO.out HZ.out M6.out)
                have HC6 := Lib.hid (row_high HC.out HZ.out M6.out)
                clear M6
                clear c5 z5 f5
                generalize ((w5.setCell ⟨w.heap.size, 2, none⟩ (.int .i64 i)).setCell ⟨w.heap.size, 4, none⟩ (.int .i64 t)) = w6 at *
                have c6 : ∀ j, w6.cell? ⟨w.heap.size, j, none⟩ = #[.string r.name, .int .u32 r.most, .int .i64 i, .int .i64 r.bucket, .int .i64 t, .int .i64 r.trip, .int .u32 r.bound, .bool r.hasGood, .int .u8 r.good, .bool r.hasOut, .int .u8 r.out][j]? := blk_cell R6.out
                have f6 : ∀ j, w6.frozen? ⟨w.heap.size, j, none⟩ = false := blk_free R6.out
                have z6 := size_of_heap R6.out
                go_wp2_with fail
                refine (SB.out.play _ _ (HAT.out.below B6.out)).mono ?_
                rintro e w7 ⟨vo2, vc2, rfl, ho2, hc2, hb7⟩
                rw [EO.out] at ho2
                rw [EC.out] at hc2
                have HO2 := Lib.hid ho2
                have HC2 := Lib.hid hc2
                have HO3 := Lib.hid (own_below HO6.out hb7)
                have HC3 := Lib.hid (own_below HC6.out hb7)
                clear ho2 hc2
                have B7 := Lib.hid (B6.out.trans (hb7.mono B6.out.size))
                have R7 := Lib.hid ((hb7.block w.heap.size (size_of_heap R6.out)).trans R6.out)
                clear hb7 c6 z6 f6
                have c7 : ∀ j, w7.cell? ⟨w.heap.size, j, none⟩ = #[.string r.name, .int .u32 r.most, .int .i64 i, .int .i64 r.bucket, .int .i64 t, .int .i64 r.trip, .int .u32 r.bound, .bool r.hasGood, .int .u8 r.good, .bool r.hasOut, .int .u8 r.out][j]? := blk_cell R7.out
                have f7 : ∀ j, w7.frozen? ⟨w.heap.size, j, none⟩ = false := blk_free R7.out
                have z7 := size_of_heap R7.out
                obtain ⟨pq, kq, rfl⟩ := row_len HO3.out
                have elen : (q.out.length : Int) = (l.length : Int) := by rw [SA.out.len]
                go_wp2_with fail
                refine (brBoth_any _ _ _ _ q.out q.s.chs _ _ _ _ _ HO3.out HC3.out HO2.out HC2.out (by have := SA.out.len; have := SA.out.short; omega) (by have := SA.out.chs; omega)).mono ?_
                rintro e w8 ⟨rfl, hb8⟩
                have B8 := Lib.hid (B7.out.trans (hb8.mono B7.out.size))
                have R8 := Lib.hid ((hb8.block w.heap.size (size_of_heap R7.out)).trans R7.out)
                clear hb8 c7 z7 f7
                have c8 : ∀ j, w8.cell? ⟨w.heap.size, j, none⟩ = #[.string r.name, .int .u32 r.most, .int .i64 i, .int .i64 r.bucket, .int .i64 t, .int .i64 r.trip, .int .u32 r.bound, .bool r.hasGood, .int .u8 r.good, .bool r.hasOut, .int .u8 r.out][j]? := blk_cell R8.out
                have f8 : ∀ j, w8.frozen? ⟨w.heap.size, j, none⟩ = false := blk_free R8.out
                have z8 := size_of_heap R8.out
                go_wp2_with fail
                refine (brWorks_any _).mono ?_
                rintro e wz ⟨rfl, hbz⟩
                go_wp2_with fail
                go_ret
                exact ⟨rfl, B8.out.trans (hbz.mono B8.out.size)⟩
          · have AA := Lib.hid hA
            clear hA
            go_enter Try.func7, Try.ntmps7
            go_wp2_with fail
            refine (fits_yes r _ hf).mono ?_
            rintro e w2 ⟨rfl, hb2⟩
            have B2 := Lib.hid (((Below.refl _ _).alloc (Nat.le_refl _) _).trans (hb2.mono (by simp)) : Below w.heap.size w w2)
            have R2 := Lib.hid ((hb2.block w.heap.size (by simp)).trans (heap_alloc_new w (Obj.cells (rulesArr r) 24)))
            clear hb2
            have c2 : ∀ j, w2.cell? ⟨w.heap.size, j, none⟩ = #[.string r.name, .int .u32 r.most, .int .i64 r.interval, .int .i64 r.bucket, .int .i64 r.timeout, .int .i64 r.trip, .int .u32 r.bound, .bool r.hasGood, .int .u8 r.good, .bool r.hasOut, .int .u8 r.out][j]? := blk_cell R2.out
            have f2 : ∀ j, w2.frozen? ⟨w.heap.size, j, none⟩ = false := blk_free R2.out
            have z2 := size_of_heap R2.out
            go_upto_region 4 with fail
            have B3 := Lib.hid ((B2.out.setCell (p := ⟨w.heap.size, 2, none⟩) (Nat.le_refl _) (.int .i64 0)).setCell (p := ⟨w.heap.size, 4, none⟩) (Nat.le_refl _) (.int .i64 0))
            have R3 := Lib.hid (show ((w2.setCell ⟨w.heap.size, 2, none⟩ (.int .i64 0)).setCell ⟨w.heap.size, 4, none⟩ (.int .i64 0)).heap[w.heap.size]? = some (Obj.cells (rulesArr { r with interval := 0, timeout := 0 }) 24 (0, 0)) from (heap_set_same (heap_set_same R2.out)).trans (by simp [rulesArr]))
            clear c2 z2 f2
            generalize ((w2.setCell ⟨w.heap.size, 2, none⟩ (.int .i64 0)).setCell ⟨w.heap.size, 4, none⟩ (.int .i64 0)) = w3 at *
            have c3 : ∀ j, w3.cell? ⟨w.heap.size, j, none⟩ = #[.string r.name, .int .u32 r.most, .int .i64 0, .int .i64 r.bucket, .int .i64 0, .int .i64 r.trip, .int .u32 r.bound, .bool r.hasGood, .int .u8 r.good, .bool r.hasOut, .int .u8 r.out][j]? := blk_cell R3.out
            have f3 : ∀ j, w3.frozen? ⟨w.heap.size, j, none⟩ = false := blk_free R3.out
            have z3 := size_of_heap R3.out
            go_wp2_with fail
            refine (areActs_any { r with interval := 0, timeout := 0 } start _ l _ RO.out m0 m1 (HAT.out.below B3.out)).mono ?_
            rintro e w4 ⟨rfl, hb4⟩
            rw [AA.out]
            have B4 := Lib.hid (B3.out.trans (hb4.mono B3.out.size))
            have R4 := Lib.hid ((hb4.block w.heap.size (size_of_heap R3.out)).trans R3.out)
            clear hb4 c3 z3 f3
            have c4 : ∀ j, w4.cell? ⟨w.heap.size, j, none⟩ = #[.string r.name, .int .u32 r.most, .int .i64 0, .int .i64 r.bucket, .int .i64 0, .int .i64 r.trip, .int .u32 r.bound, .bool r.hasGood, .int .u8 r.good, .bool r.hasOut, .int .u8 r.out][j]? := blk_cell R4.out
            have f4 : ∀ j, w4.frozen? ⟨w.heap.size, j, none⟩ = false := blk_free R4.out
            have z4 := size_of_heap R4.out
            go_wp2_with fail
            refine (brWorks_any _).mono ?_
            rintro e wz ⟨rfl, hbz⟩
            go_wp2_with fail
            go_ret
            exact ⟨rfl, B4.out.trans (hbz.mono B4.out.size)⟩
        · have AA := Lib.hid hA
          clear hA
          go_enter Try.func7, Try.ntmps7
          go_wp2_with fail
          refine (fits_yes r _ hf).mono ?_
          rintro e w2 ⟨rfl, hb2⟩
          have B2 := Lib.hid (((Below.refl _ _).alloc (Nat.le_refl _) _).trans (hb2.mono (by simp)) : Below w.heap.size w w2)
          have R2 := Lib.hid ((hb2.block w.heap.size (by simp)).trans (heap_alloc_new w (Obj.cells (rulesArr r) 24)))
          clear hb2
          have c2 : ∀ j, w2.cell? ⟨w.heap.size, j, none⟩ = #[.string r.name, .int .u32 r.most, .int .i64 r.interval, .int .i64 r.bucket, .int .i64 r.timeout, .int .i64 r.trip, .int .u32 r.bound, .bool r.hasGood, .int .u8 r.good, .bool r.hasOut, .int .u8 r.out][j]? := blk_cell R2.out
          have f2 : ∀ j, w2.frozen? ⟨w.heap.size, j, none⟩ = false := blk_free R2.out
          have z2 := size_of_heap R2.out
          go_upto_region 4 with fail
          have B3 := Lib.hid ((B2.out.setCell (p := ⟨w.heap.size, 2, none⟩) (Nat.le_refl _) (.int .i64 0)).setCell (p := ⟨w.heap.size, 4, none⟩) (Nat.le_refl _) (.int .i64 0))
          have R3 := Lib.hid (show ((w2.setCell ⟨w.heap.size, 2, none⟩ (.int .i64 0)).setCell ⟨w.heap.size, 4, none⟩ (.int .i64 0)).heap[w.heap.size]? = some (Obj.cells (rulesArr { r with interval := 0, timeout := 0 }) 24 (0, 0)) from (heap_set_same (heap_set_same R2.out)).trans (by simp [rulesArr]))
          clear c2 z2 f2
          generalize ((w2.setCell ⟨w.heap.size, 2, none⟩ (.int .i64 0)).setCell ⟨w.heap.size, 4, none⟩ (.int .i64 0)) = w3 at *
          have c3 : ∀ j, w3.cell? ⟨w.heap.size, j, none⟩ = #[.string r.name, .int .u32 r.most, .int .i64 0, .int .i64 r.bucket, .int .i64 0, .int .i64 r.trip, .int .u32 r.bound, .bool r.hasGood, .int .u8 r.good, .bool r.hasOut, .int .u8 r.out][j]? := blk_cell R3.out
          have f3 : ∀ j, w3.frozen? ⟨w.heap.size, j, none⟩ = false := blk_free R3.out
          have z3 := size_of_heap R3.out
          go_wp2_with fail
          refine (areActs_any { r with interval := 0, timeout := 0 } start _ l _ RO.out m0 m1 (HAT.out.below B3.out)).mono ?_
          rintro e w4 ⟨rfl, hb4⟩
          rw [AA.out]
          have B4 := Lib.hid (B3.out.trans (hb4.mono B3.out.size))
          have R4 := Lib.hid ((hb4.block w.heap.size (size_of_heap R3.out)).trans R3.out)
          clear hb4 c3 z3 f3
          have c4 : ∀ j, w4.cell? ⟨w.heap.size, j, none⟩ = #[.string r.name, .int .u32 r.most, .int .i64 0, .int .i64 r.bucket, .int .i64 0, .int .i64 r.trip, .int .u32 r.bound, .bool r.hasGood, .int .u8 r.good, .bool r.hasOut, .int .u8 r.out][j]? := blk_cell R4.out
          have f4 : ∀ j, w4.frozen? ⟨w.heap.size, j, none⟩ = false := blk_free R4.out
          have z4 := size_of_heap R4.out
          go_wp2_with fail
          refine (brWorks_any _).mono ?_
          rintro e wz ⟨rfl, hbz⟩
          go_wp2_with fail
          go_ret
          exact ⟨rfl, B4.out.trans (hbz.mono B4.out.size)⟩
    · have hnz : ¬ ((l.length : Int) ≤ 2147483647) := by omega
      go_enter Try.func7, Try.ntmps7
      go_wp2_with fail
      refine (fits_yes r _ hf).mono ?_
      rintro e w2 ⟨rfl, hb2⟩
      have B2 := Lib.hid (((Below.refl _ _).alloc (Nat.le_refl _) _).trans (hb2.mono (by simp)) : Below w.heap.size w w2)
      have R2 := Lib.hid ((hb2.block w.heap.size (by simp)).trans (heap_alloc_new w (Obj.cells (rulesArr r) 24)))
      clear hb2
      have c2 : ∀ i, w2.cell? ⟨w.heap.size, i, none⟩ = #[.string r.name, .int .u32 r.most, .int .i64 r.interval, .int .i64 r.bucket, .int .i64 r.timeout, .int .i64 r.trip, .int .u32 r.bound, .bool r.hasGood, .int .u8 r.good, .bool r.hasOut, .int .u8 r.out][i]? := blk_cell R2.out
      have z2 := size_of_heap R2.out
      go_wp2_with fail
      go_ret
      exact ⟨rfl, B2.out⟩
  · skip
    go_enter Try.func7, Try.ntmps7
    go_wp2_with fail
    refine (fits_no r _ hf).mono ?_
    rintro e w2 ⟨rfl, hb2⟩
    have B2 := Lib.hid (((Below.refl _ _).alloc (Nat.le_refl _) _).trans (hb2.mono (by simp)) : Below w.heap.size w w2)
    have R2 := Lib.hid ((hb2.block w.heap.size (by simp)).trans (heap_alloc_new w (Obj.cells (rulesArr r) 24)))
    clear hb2
    go_wp2_with fail
    go_ret
    exact ⟨rfl, B2.out⟩
theorem fnNoTimes_row (r : Rules) (start : Int) (va : Value) (l : List Act) (i t : Int) (w : World) (h : RulesIn r) (_ : IntKind.i64.min ≤ start ∧ start ≤ IntKind.i64.max) (ha : ActsAt w va l) (_ : IntKind.i64.min ≤ i ∧ i ≤ IntKind.i64.max) (_ : IntKind.i64.min ≤ t ∧ t ≤ IntKind.i64.max) :
    Calls Try.prog 7 #[rulesV r, .int .i64 start, va, .int .i64 i, .int .i64 t] w fun e w' => e = .returned (.bool true) ∧ Below w.heap.size w w' := FnNoTimes_any r start va l i t w h.ok h.m0 h.m1 ha

end Go.Proofs.Ytcjklacfoldaoaa
