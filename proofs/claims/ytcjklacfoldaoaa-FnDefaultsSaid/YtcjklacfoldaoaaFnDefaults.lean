/- The law FnDefaults as a contract: it is true. Conditions: the acts can be read, the rules' numbers are in their types' ranges. -/
import Derived.Test.YtcjklacfoldaoaaPartB
import Derived.Test.YtcjklacfoldaoaaOpen
namespace Go.Proofs.Ytcjklacfoldaoaa
open Go.RowKit
attribute [local go_sem ↓] Go.wp_at_zero Go.wp_at_succ

set_option maxRecDepth 100000 in
set_option maxHeartbeats 4000000 in
theorem FnDefaults_any (start : Int) (va : Value) (l : List Act) (i : Int) (w : World) (ha : ActsAt w va l) :
    Calls Try.prog 5 #[.int .i64 start, va, .int .i64 i] w fun e w' => e = .returned (.bool true) ∧ Below w.heap.size w w' := by
  have HAT := Lib.hid ha
  obtain ⟨pa, cap, rfl, _⟩ := ha
  by_cases hn : l.length ≤ 2147483647
  · have hnz : (l.length : Int) ≤ 2147483647 := by omega
    cases hA : areActs (plainR i) start l with
    | false =>
      have AA := Lib.hid hA
      clear hA
      go_enter Try.func5, Try.ntmps5
      go_wp2_with fail
      refine (areActs_any (plainR i) start _ l _ ⟨by show (0 : Int) ≤ 0; decide, by show (0 : Int) < 256; decide, by show (0 : Int) ≤ 0; decide, by show (0 : Int) < 256; decide⟩ (by show (0 : Int) ≤ 0; decide) (by show (0 : Int) < 4294967296; decide) (HAT.out.below (((Below.refl _ _).alloc (Nat.le_refl _) _).alloc (by simp) _))).mono ?_
      rintro e w3 ⟨rfl, hb3⟩
      rw [AA.out]
      have B3 := Lib.hid ((((Below.refl _ _).alloc (Nat.le_refl _) _).alloc (by simp) _).trans (hb3.mono (by simp; omega)) : Below w.heap.size w w3)
      have R3 := Lib.hid (And.intro ((hb3.block w.heap.size (by simp; omega)).trans (heap_alloc_lt (heap_alloc_new w (Obj.cells #[.string ⟨#[]⟩, .int .u32 0, .int .i64 i, .int .i64 0, .int .i64 0, .int .i64 0, .int .u32 0, .bool false, .int .u8 0, .bool false, .int .u8 0] 24)))) ((hb3.block (w.heap.size + 1) (by simp)).trans (heap_alloc_at (o := Obj.cells #[.string ⟨#[]⟩, .int .u32 1, .int .i64 i, .int .i64 0, .int .i64 60000000000, .int .i64 1, .int .u32 6, .bool true, .int .u8 1, .bool true, .int .u8 0] 24) (by simp))))
      clear hb3
      have c3 : ∀ j, w3.cell? ⟨w.heap.size, j, none⟩ = #[.string ⟨#[]⟩, .int .u32 0, .int .i64 i, .int .i64 0, .int .i64 0, .int .i64 0, .int .u32 0, .bool false, .int .u8 0, .bool false, .int .u8 0][j]? := blk_cell R3.out.1
      have d3 : ∀ j, w3.cell? ⟨w.heap.size + 1, j, none⟩ = #[.string ⟨#[]⟩, .int .u32 1, .int .i64 i, .int .i64 0, .int .i64 60000000000, .int .i64 1, .int .u32 6, .bool true, .int .u8 1, .bool true, .int .u8 0][j]? := blk_cell R3.out.2
      have z3 := size_of_heap R3.out.1
      have y3 := size_of_heap R3.out.2
      go_wp2_with fail
      refine (brWorks_any _).mono ?_
      rintro e wz ⟨rfl, hbz⟩
      go_wp2_with fail
      go_ret
      exact ⟨rfl, B3.out.trans (hbz.mono B3.out.size)⟩
    | true =>
      have AA := Lib.hid hA
      obtain ⟨q, hq⟩ := said (r := plainR i) ⟨by show (0 : Int) ≤ 0; decide, by show (0 : Int) < 256; decide, by show (0 : Int) ≤ 0; decide, by show (0 : Int) < 256; decide⟩ hA (by show (0 : Int) ≤ 0; decide) (by show (0 : Int) < 4294967296; decide)
      obtain ⟨q2, hq2, eo, ec⟩ := said_full hA hq
      have SA := Lib.hid hq
      have SB := Lib.hid hq2
      have EO := Lib.hid eo
      have EC := Lib.hid ec
      clear hA hq hq2 eo ec
      go_enter Try.func5, Try.ntmps5
      go_wp2_with fail
      refine (areActs_any (plainR i) start _ l _ ⟨by show (0 : Int) ≤ 0; decide, by show (0 : Int) < 256; decide, by show (0 : Int) ≤ 0; decide, by show (0 : Int) < 256; decide⟩ (by show (0 : Int) ≤ 0; decide) (by show (0 : Int) < 4294967296; decide) (HAT.out.below (((Below.refl _ _).alloc (Nat.le_refl _) _).alloc (by simp) _))).mono ?_
      rintro e w3 ⟨rfl, hb3⟩
      rw [AA.out]
      have B3 := Lib.hid ((((Below.refl _ _).alloc (Nat.le_refl _) _).alloc (by simp) _).trans (hb3.mono (by simp; omega)) : Below w.heap.size w w3)
      have R3 := Lib.hid (And.intro ((hb3.block w.heap.size (by simp; omega)).trans (heap_alloc_lt (heap_alloc_new w (Obj.cells #[.string ⟨#[]⟩, .int .u32 0, .int .i64 i, .int .i64 0, .int .i64 0, .int .i64 0, .int .u32 0, .bool false, .int .u8 0, .bool false, .int .u8 0] 24)))) ((hb3.block (w.heap.size + 1) (by simp)).trans (heap_alloc_at (o := Obj.cells #[.string ⟨#[]⟩, .int .u32 1, .int .i64 i, .int .i64 0, .int .i64 60000000000, .int .i64 1, .int .u32 6, .bool true, .int .u8 1, .bool true, .int .u8 0] 24) (by simp))))
      clear hb3
      have c3 : ∀ j, w3.cell? ⟨w.heap.size, j, none⟩ = #[.string ⟨#[]⟩, .int .u32 0, .int .i64 i, .int .i64 0, .int .i64 0, .int .i64 0, .int .u32 0, .bool false, .int .u8 0, .bool false, .int .u8 0][j]? := blk_cell R3.out.1
      have d3 : ∀ j, w3.cell? ⟨w.heap.size + 1, j, none⟩ = #[.string ⟨#[]⟩, .int .u32 1, .int .i64 i, .int .i64 0, .int .i64 60000000000, .int .i64 1, .int .u32 6, .bool true, .int .u8 1, .bool true, .int .u8 0][j]? := blk_cell R3.out.2
      have z3 := size_of_heap R3.out.1
      have y3 := size_of_heap R3.out.2
      go_wp2_with fail
      refine (SA.out.play _ _ (HAT.out.below B3.out)).mono ?_
      rintro e w4 ⟨vo, vc, rfl, ho, hc, hb4⟩
      have B4 := Lib.hid (B3.out.trans (hb4.mono B3.out.size))
      have R4 := Lib.hid (And.intro ((hb4.block _ (size_of_heap R3.out.1)).trans R3.out.1) ((hb4.block _ (size_of_heap R3.out.2)).trans R3.out.2))
      clear hb4 c3 z3 d3 y3
      have c4 : ∀ j, w4.cell? ⟨w.heap.size, j, none⟩ = #[.string ⟨#[]⟩, .int .u32 0, .int .i64 i, .int .i64 0, .int .i64 0, .int .i64 0, .int .u32 0, .bool false, .int .u8 0, .bool false, .int .u8 0][j]? := blk_cell R4.out.1
      have d4 : ∀ j, w4.cell? ⟨w.heap.size + 1, j, none⟩ = #[.string ⟨#[]⟩, .int .u32 1, .int .i64 i, .int .i64 0, .int .i64 60000000000, .int .i64 1, .int .u32 6, .bool true, .int .u8 1, .bool true, .int .u8 0][j]? := blk_cell R4.out.2
      have z4 := size_of_heap R4.out.1
      have y4 := size_of_heap R4.out.2
      have HO := Lib.hid ho
      have HC := Lib.hid hc
      clear ho hc
      go_wp2_with fail
      refine (SB.out.play _ _ (HAT.out.below B4.out)).mono ?_
      rintro e w5 ⟨vo2, vc2, rfl, ho2, hc2, hb5⟩
      rw [EO.out] at ho2
      rw [EC.out] at hc2
      have HO2 := Lib.hid ho2
      have HC2 := Lib.hid hc2
      have HO3 := Lib.hid (own_below HO.out hb5)
      have HC3 := Lib.hid (own_below HC.out hb5)
      clear ho2 hc2
      have B5 := Lib.hid (B4.out.trans (hb5.mono B4.out.size))
      have R5 := Lib.hid (And.intro ((hb5.block _ (size_of_heap R4.out.1)).trans R4.out.1) ((hb5.block _ (size_of_heap R4.out.2)).trans R4.out.2))
      clear hb5 c4 z4 d4 y4
      have c5 : ∀ j, w5.cell? ⟨w.heap.size, j, none⟩ = #[.string ⟨#[]⟩, .int .u32 0, .int .i64 i, .int .i64 0, .int .i64 0, .int .i64 0, .int .u32 0, .bool false, .int .u8 0, .bool false, .int .u8 0][j]? := blk_cell R5.out.1
      have d5 : ∀ j, w5.cell? ⟨w.heap.size + 1, j, none⟩ = #[.string ⟨#[]⟩, .int .u32 1, .int .i64 i, .int .i64 0, .int .i64 60000000000, .int .i64 1, .int .u32 6, .bool true, .int .u8 1, .bool true, .int .u8 0][j]? := blk_cell R5.out.2
      have z5 := size_of_heap R5.out.1
      have y5 := size_of_heap R5.out.2
      obtain ⟨pq, kq, rfl⟩ := row_len HO3.out
      have elen : (q.out.length : Int) = (l.length : Int) := by rw [SA.out.len]
      go_wp2_with fail
      refine (brBoth_any _ _ _ _ q.out q.s.chs _ _ _ _ _ HO3.out HC3.out HO2.out HC2.out (by have := SA.out.len; have := SA.out.short; omega) (by have := SA.out.chs; omega)).mono ?_
      rintro e w6 ⟨rfl, hb6⟩
      have B6 := Lib.hid (B5.out.trans (hb6.mono B5.out.size))
      have R6 := Lib.hid (And.intro ((hb6.block _ (size_of_heap R5.out.1)).trans R5.out.1) ((hb6.block _ (size_of_heap R5.out.2)).trans R5.out.2))
      clear hb6 c5 z5 d5 y5
      have c6 : ∀ j, w6.cell? ⟨w.heap.size, j, none⟩ = #[.string ⟨#[]⟩, .int .u32 0, .int .i64 i, .int .i64 0, .int .i64 0, .int .i64 0, .int .u32 0, .bool false, .int .u8 0, .bool false, .int .u8 0][j]? := blk_cell R6.out.1
      have d6 : ∀ j, w6.cell? ⟨w.heap.size + 1, j, none⟩ = #[.string ⟨#[]⟩, .int .u32 1, .int .i64 i, .int .i64 0, .int .i64 60000000000, .int .i64 1, .int .u32 6, .bool true, .int .u8 1, .bool true, .int .u8 0][j]? := blk_cell R6.out.2
      have z6 := size_of_heap R6.out.1
      have y6 := size_of_heap R6.out.2
      go_wp2_with fail
      refine (brWorks_any _).mono ?_
      rintro e wz ⟨rfl, hbz⟩
      go_wp2_with fail
      go_ret
      exact ⟨rfl, B6.out.trans (hbz.mono B6.out.size)⟩
  · have hnz : ¬ ((l.length : Int) ≤ 2147483647) := by omega
    go_enter Try.func5, Try.ntmps5
    go_wp2_with fail
    go_ret
    exact ⟨rfl, Below.refl _ _⟩
theorem fnDefaults_row (start : Int) (va : Value) (l : List Act) (i : Int) (w : World) (_ : IntKind.i64.min ≤ start ∧ start ≤ IntKind.i64.max) (ha : ActsAt w va l) (_ : IntKind.i64.min ≤ i ∧ i ≤ IntKind.i64.max) :
    Calls Try.prog 5 #[.int .i64 start, va, .int .i64 i] w fun e w' => e = .returned (.bool true) ∧ Below w.heap.size w w' := FnDefaults_any start va l i w ha

end Go.Proofs.Ytcjklacfoldaoaa
