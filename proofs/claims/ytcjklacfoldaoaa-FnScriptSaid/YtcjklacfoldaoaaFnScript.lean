/- The law FnScript as a contract: it is true. Conditions: the acts can be read, the rules' numbers are in their types' ranges. -/
import Derived.Test.YtcjklacfoldaoaaPartB
import Derived.Test.YtcjklacfoldaoaaOpen
namespace Go.Proofs.Ytcjklacfoldaoaa
open Go.RowKit
attribute [local go_sem ↓] Go.wp_at_zero Go.wp_at_succ

set_option maxRecDepth 100000 in
set_option maxHeartbeats 4000000 in
theorem FnScript_any (r : Rules) (start : Int) (va : Value) (l : List Act) (w : World) (rok : r.Ok) (m0 : 0 ≤ r.most) (m1 : r.most < 4294967296) (ha : ActsAt w va l) :
    Calls Try.prog 9 #[rulesV r, .int .i64 start, va] w fun e w' => e = .returned (.bool true) ∧ Below w.heap.size w w' := by
  have HAT := Lib.hid ha
  obtain ⟨pa, cap, rfl, _⟩ := ha
  have RO := Lib.hid rok
  clear rok
  unfold rulesV
  by_cases hf : r.name.size ≤ 2147483647
  · by_cases hn : l.length ≤ 2147483647
    · have hnz : (l.length : Int) ≤ 2147483647 := by omega
      cases hA : areActs r start l with
      | false =>
        have AA := Lib.hid hA
        clear hA
        go_enter Try.func9, Try.ntmps9
        go_wp2_with fail
        refine (fits_yes r _ hf).mono ?_
        rintro e w2 ⟨rfl, hb2⟩
        have B2 := Lib.hid (((Below.refl _ _).alloc (Nat.le_refl _) _).trans (hb2.mono (by simp)) : Below w.heap.size w w2)
        have R2 := Lib.hid ((hb2.block w.heap.size (by simp)).trans (heap_alloc_new w (Obj.cells (rulesArr r) 24)))
        clear hb2
        have c2 : ∀ i, w2.cell? ⟨w.heap.size, i, none⟩ = #[.string r.name, .int .u32 r.most, .int .i64 r.interval, .int .i64 r.bucket, .int .i64 r.timeout, .int .i64 r.trip, .int .u32 r.bound, .bool r.hasGood, .int .u8 r.good, .bool r.hasOut, .int .u8 r.out][i]? := blk_cell R2.out
        have z2 := size_of_heap R2.out
        go_wp2_with fail
        refine (areActs_any r start _ l _ RO.out m0 m1 (HAT.out.below B2.out)).mono ?_
        rintro e w3 ⟨rfl, hb3⟩
        rw [AA.out]
        have B3 := Lib.hid (B2.out.trans (hb3.mono B2.out.size))
        have R3 := Lib.hid ((hb3.block w.heap.size (size_of_heap R2.out)).trans R2.out)
        clear hb3 c2 z2
        have c3 : ∀ i, w3.cell? ⟨w.heap.size, i, none⟩ = #[.string r.name, .int .u32 r.most, .int .i64 r.interval, .int .i64 r.bucket, .int .i64 r.timeout, .int .i64 r.trip, .int .u32 r.bound, .bool r.hasGood, .int .u8 r.good, .bool r.hasOut, .int .u8 r.out][i]? := blk_cell R3.out
        have z3 := size_of_heap R3.out
        go_wp2_with fail
        refine (brWorks_any _).mono ?_
        rintro e wz ⟨rfl, hbz⟩
        go_wp2_with fail
        go_ret
        exact ⟨rfl, B3.out.trans (hbz.mono B3.out.size)⟩
      | true =>
        have AA := Lib.hid hA
        obtain ⟨q, hq⟩ := said RO.out hA m0 m1
        have SA := Lib.hid hq
        clear hA hq
        go_enter Try.func9, Try.ntmps9
        go_wp2_with fail
        refine (fits_yes r _ hf).mono ?_
        rintro e w2 ⟨rfl, hb2⟩
        have B2 := Lib.hid (((Below.refl _ _).alloc (Nat.le_refl _) _).trans (hb2.mono (by simp)) : Below w.heap.size w w2)
        have R2 := Lib.hid ((hb2.block w.heap.size (by simp)).trans (heap_alloc_new w (Obj.cells (rulesArr r) 24)))
        clear hb2
        have c2 : ∀ i, w2.cell? ⟨w.heap.size, i, none⟩ = #[.string r.name, .int .u32 r.most, .int .i64 r.interval, .int .i64 r.bucket, .int .i64 r.timeout, .int .i64 r.trip, .int .u32 r.bound, .bool r.hasGood, .int .u8 r.good, .bool r.hasOut, .int .u8 r.out][i]? := blk_cell R2.out
        have z2 := size_of_heap R2.out
        go_wp2_with fail
        refine (areActs_any r start _ l _ RO.out m0 m1 (HAT.out.below B2.out)).mono ?_
        rintro e w3 ⟨rfl, hb3⟩
        rw [AA.out]
        have B3 := Lib.hid (B2.out.trans (hb3.mono B2.out.size))
        have R3 := Lib.hid ((hb3.block w.heap.size (size_of_heap R2.out)).trans R2.out)
        clear hb3 c2 z2
        have c3 : ∀ i, w3.cell? ⟨w.heap.size, i, none⟩ = #[.string r.name, .int .u32 r.most, .int .i64 r.interval, .int .i64 r.bucket, .int .i64 r.timeout, .int .i64 r.trip, .int .u32 r.bound, .bool r.hasGood, .int .u8 r.good, .bool r.hasOut, .int .u8 r.out][i]? := blk_cell R3.out
        have z3 := size_of_heap R3.out
        have TW := Lib.hid (fun (W : World) (hW : ActsAt W (Value.slice pa l.length cap) l) => twoStep_any r start _ l W (mild_of (areActs_parts AA.out).1 m0 m1) RO.out (isTime_parts (areActs_parts AA.out).2.1).1 (isTime_parts (areActs_parts AA.out).2.1).2 hW SA.out.short (areActs_parts AA.out).2.2.2.1)
        go_wp2_with fail
        refine (TW.out _ (HAT.out.below B3.out)).mono ?_
        rintro e w4 ⟨vo, vc, rfl, hb4, hrows⟩
        obtain ⟨ho, hc⟩ := hrows q SA.out.run
        have B4 := Lib.hid (B3.out.trans (hb4.mono B3.out.size))
        have R4 := Lib.hid ((hb4.block w.heap.size (size_of_heap R3.out)).trans R3.out)
        clear hb4 c3 z3
        have c4 : ∀ i, w4.cell? ⟨w.heap.size, i, none⟩ = #[.string r.name, .int .u32 r.most, .int .i64 r.interval, .int .i64 r.bucket, .int .i64 r.timeout, .int .i64 r.trip, .int .u32 r.bound, .bool r.hasGood, .int .u8 r.good, .bool r.hasOut, .int .u8 r.out][i]? := blk_cell R4.out
        have z4 := size_of_heap R4.out
        have HO := Lib.hid ho
        have HC := Lib.hid hc
        clear ho hc hrows
        go_wp2_with fail
        refine (SA.out.play _ _ (HAT.out.below B4.out)).mono ?_
        rintro e w5 ⟨vo2, vc2, rfl, ho2, hc2, hb5⟩
        have HO2 := Lib.hid ho2
        have HC2 := Lib.hid hc2
        have HO3 := Lib.hid (own_below HO.out hb5)
        have HC3 := Lib.hid (own_below HC.out hb5)
        clear ho2 hc2
        have B5 := Lib.hid (B4.out.trans (hb5.mono B4.out.size))
        have R5 := Lib.hid ((hb5.block w.heap.size (size_of_heap R4.out)).trans R4.out)
        clear hb5 c4 z4
        have c5 : ∀ i, w5.cell? ⟨w.heap.size, i, none⟩ = #[.string r.name, .int .u32 r.most, .int .i64 r.interval, .int .i64 r.bucket, .int .i64 r.timeout, .int .i64 r.trip, .int .u32 r.bound, .bool r.hasGood, .int .u8 r.good, .bool r.hasOut, .int .u8 r.out][i]? := blk_cell R5.out
        have z5 := size_of_heap R5.out
        go_wp2_with fail
        refine (brBoth_any _ _ _ _ q.out q.s.chs _ _ _ _ _ HO2.out HC2.out HO3.out HC3.out (by have := SA.out.len; have := SA.out.short; omega) (by have := SA.out.chs; omega)).mono ?_
        rintro e w6 ⟨rfl, hb6⟩
        have B6 := Lib.hid (B5.out.trans (hb6.mono B5.out.size))
        have R6 := Lib.hid ((hb6.block w.heap.size (size_of_heap R5.out)).trans R5.out)
        clear hb6 c5 z5
        have c6 : ∀ i, w6.cell? ⟨w.heap.size, i, none⟩ = #[.string r.name, .int .u32 r.most, .int .i64 r.interval, .int .i64 r.bucket, .int .i64 r.timeout, .int .i64 r.trip, .int .u32 r.bound, .bool r.hasGood, .int .u8 r.good, .bool r.hasOut, .int .u8 r.out][i]? := blk_cell R6.out
        have z6 := size_of_heap R6.out
        go_wp2_with fail
        refine (brWorks_any _).mono ?_
        rintro e wz ⟨rfl, hbz⟩
        go_wp2_with fail
        go_ret
        exact ⟨rfl, B6.out.trans (hbz.mono B6.out.size)⟩
    · have hnz : ¬ ((l.length : Int) ≤ 2147483647) := by omega
      go_enter Try.func9, Try.ntmps9
      go_wp2_with fail
      refine (fits_yes r _ hf).mono ?_
      rintro e w2 ⟨rfl, hb2⟩
      have B2 := Lib.hid (((Below.refl _ _).alloc (Nat.le_refl _) _).trans (hb2.mono (by simp)) : Below w.heap.size w w2)
      have R2 := Lib.hid ((hb2.block w.heap.size (by simp)).trans (heap_alloc_new w (Obj.cells (rulesArr r) 24)))
      clear hb2
      have c2 : ∀ i, w2.cell? ⟨w.heap.size, i, none⟩ = #[.string r.name, .int .u32 r.most, .int .i64 r.interval, .int .i64 r.bucket, .int .i64 r.timeout, .int .i64 r.trip, .int .u32 r.bound, .bool r.hasGood, .int .u8 r.good, .bool r.hasOut, .int .u8 r.out][i]? := blk_cell R2.out
      have z2 := size_of_heap R2.out
      go_wp2_with fail
      go_ret
      exact ⟨rfl, B2.out⟩
  · skip
    go_enter Try.func9, Try.ntmps9
    go_wp2_with fail
    refine (fits_no r _ hf).mono ?_
    rintro e w2 ⟨rfl, hb2⟩
    have B2 := Lib.hid (((Below.refl _ _).alloc (Nat.le_refl _) _).trans (hb2.mono (by simp)) : Below w.heap.size w w2)
    have R2 := Lib.hid ((hb2.block w.heap.size (by simp)).trans (heap_alloc_new w (Obj.cells (rulesArr r) 24)))
    clear hb2
    go_wp2_with fail
    go_ret
    exact ⟨rfl, B2.out⟩

theorem fnScript_row (r : Rules) (start : Int) (va : Value) (l : List Act) (w : World) (h : RulesIn r) (_ : IntKind.i64.min ≤ start ∧ start ≤ IntKind.i64.max) (ha : ActsAt w va l) :
    Calls Try.prog 9 #[rulesV r, .int .i64 start, va] w fun e w' => e = .returned (.bool true) ∧ Below w.heap.size w w' := FnScript_any r start va l w h.ok h.m0 h.m1 ha

end Go.Proofs.Ytcjklacfoldaoaa
