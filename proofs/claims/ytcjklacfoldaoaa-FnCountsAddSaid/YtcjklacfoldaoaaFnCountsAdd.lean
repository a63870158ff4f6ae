/- The law FnCountsAdd as a contract: it is true. Conditions: the acts can be read, the rules' numbers are in their types' ranges. -/
import Derived.Test.YtcjklacfoldaoaaPart
import Derived.Test.YtcjklacfoldaoaaOpen
namespace Go.Proofs.Ytcjklacfoldaoaa
open Go.RowKit
attribute [local go_sem ↓] Go.wp_at_zero Go.wp_at_succ

set_option maxRecDepth 100000 in
set_option maxHeartbeats 4000000 in
theorem FnCountsAdd_any (r : Rules) (start : Int) (va : Value) (l : List Act) (w : World) (rok : r.Ok) (m0 : 0 ≤ r.most) (m1 : r.most < 4294967296) (ha : ActsAt w va l) :
    Calls Try.prog 4 #[rulesV r, .int .i64 start, va] w fun e w' => e = .returned (.bool true) ∧ Below w.heap.size w w' := by
  have HAT := Lib.hid ha
  obtain ⟨pa, cap, rfl, _⟩ := ha
  have RO := Lib.hid rok
  clear rok
  unfold rulesV
  by_cases hf : r.name.size ≤ 2147483647
  · by_cases hn : l.length ≤ 2147483647
    · have hnz : (l.length : Int) ≤ 2147483647 := by omega
      cases hA : areActs r start l with
      | false =>
        have AA := Lib.hid hA
        clear hA
        go_enter Try.func4, Try.ntmps4
        go_wp2_with fail
        refine (fits_yes r _ hf).mono ?_
        rintro e w2 ⟨rfl, hb2⟩
        have B2 := Lib.hid (((Below.refl _ _).alloc (Nat.le_refl _) _).trans (hb2.mono (by simp)) : Below w.heap.size w w2)
        have R2 := Lib.hid ((hb2.block w.heap.size (by simp)).trans (heap_alloc_new w (Obj.cells (rulesArr r) 24)))
        clear hb2
        have c2 : ∀ i, w2.cell? ⟨w.heap.size, i, none⟩ = #[.string r.name, .int .u32 r.most, .int .i64 r.interval, .int .i64 r.bucket, .int .i64 r.timeout, .int .i64 r.trip, .int .u32 r.bound, .bool r.hasGood, .int .u8 r.good, .bool r.hasOut, .int .u8 r.out][i]? := blk_cell R2.out
        have z2 := size_of_heap R2.out
        go_wp2_with fail
        refine (areActs_any r start _ l _ RO.out m0 m1 (HAT.out.below B2.out)).mono ?_
        rintro e w3 ⟨rfl, hb3⟩
        rw [AA.out]
        have B3 := Lib.hid (B2.out.trans (hb3.mono B2.out.size))
        have R3 := Lib.hid ((hb3.block w.heap.size (size_of_heap R2.out)).trans R2.out)
        clear hb3 c2 z2
        have c3 : ∀ i, w3.cell? ⟨w.heap.size, i, none⟩ = #[.string r.name, .int .u32 r.most, .int .i64 r.interval, .int .i64 r.bucket, .int .i64 r.timeout, .int .i64 r.trip, .int .u32 r.bound, .bool r.hasGood, .int .u8 r.good, .bool r.hasOut, .int .u8 r.out][i]? := blk_cell R3.out
        have z3 := size_of_heap R3.out
        go_wp2_with fail
        refine (brWorks_any _).mono ?_
        rintro e wz ⟨rfl, hbz⟩
        go_wp2_with fail
        go_ret
        exact ⟨rfl, B3.out.trans (hbz.mono B3.out.size)⟩
      | true =>
        have AA := Lib.hid hA
        obtain ⟨q, hq⟩ := said RO.out hA m0 m1
        have SA := Lib.hid hq
        clear hA hq
        go_enter Try.func4, Try.ntmps4
        go_wp2_with fail
        refine (fits_yes r _ hf).mono ?_
        rintro e w2 ⟨rfl, hb2⟩
        have B2 := Lib.hid (((Below.refl _ _).alloc (Nat.le_refl _) _).trans (hb2.mono (by simp)) : Below w.heap.size w w2)
        have R2 := Lib.hid ((hb2.block w.heap.size (by simp)).trans (heap_alloc_new w (Obj.cells (rulesArr r) 24)))
        clear hb2
        have c2 : ∀ i, w2.cell? ⟨w.heap.size, i, none⟩ = #[.string r.name, .int .u32 r.most, .int .i64 r.interval, .int .i64 r.bucket, .int .i64 r.timeout, .int .i64 r.trip, .int .u32 r.bound, .bool r.hasGood, .int .u8 r.good, .bool r.hasOut, .int .u8 r.out][i]? := blk_cell R2.out
        have z2 := size_of_heap R2.out
        go_wp2_with fail
        refine (areActs_any r start _ l _ RO.out m0 m1 (HAT.out.below B2.out)).mono ?_
        rintro e w3 ⟨rfl, hb3⟩
        rw [AA.out]
        have B3 := Lib.hid (B2.out.trans (hb3.mono B2.out.size))
        have R3 := Lib.hid ((hb3.block w.heap.size (size_of_heap R2.out)).trans R2.out)
        clear hb3 c2 z2
        have c3 : ∀ i, w3.cell? ⟨w.heap.size, i, none⟩ = #[.string r.name, .int .u32 r.most, .int .i64 r.interval, .int .i64 r.bucket, .int .i64 r.timeout, .int .i64 r.trip, .int .u32 r.bound, .bool r.hasGood, .int .u8 r.good, .bool r.hasOut, .int .u8 r.out][i]? := blk_cell R3.out
        have z3 := size_of_heap R3.out
        go_wp2_with fail
        refine (SA.out.play _ _ (HAT.out.below B3.out)).mono ?_
        rintro e w4 ⟨vo, vc, rfl, ho, hc, hb4⟩
        have B4 := Lib.hid (B3.out.trans (hb4.mono B3.out.size))
        have R4 := Lib.hid ((hb4.block w.heap.size (size_of_heap R3.out)).trans R3.out)
        clear hb4 c3 z3
        have c4 : ∀ i, w4.cell? ⟨w.heap.size, i, none⟩ = #[.string r.name, .int .u32 r.most, .int .i64 r.interval, .int .i64 r.bucket, .int .i64 r.timeout, .int .i64 r.trip, .int .u32 r.bound, .bool r.hasGood, .int .u8 r.good, .bool r.hasOut, .int .u8 r.out][i]? := blk_cell R4.out
        have z4 := size_of_heap R4.out
        have HO := Lib.hid ho
        have HC := Lib.hid hc
        clear ho hc
        obtain ⟨pc, capc, rfl⟩ := row_len HO.out
        have elen : (q.out.length : Int) = (l.length : Int) := by rw [SA.out.len]
        have hsh : q.out.length ≤ 2000 := by rw [SA.out.len]; exact SA.out.short
        go_wp2_with fail
        go_loopg [35] q.out.length (fun g s35 wx => ∃ i : Nat, g = q.out.length - i ∧ i ≤ q.out.length ∧ s35 = .int .i64 (i : Int) ∧ Hid (Below w4.heap.size w4 wx))
        case atStart => exact ⟨0, rfl, Nat.zero_le _, rfl, Lib.hid (Below.refl _ _)⟩
        case round =>
          obtain ⟨i, rfl, hi, rfl, hh⟩ := hrel
          by_cases hin : i < q.out.length
          · have hiz : (i : Int) < (l.length : Int) := by omega
            obtain ⟨x, hx⟩ : ∃ x, q.out[i]? = some x := ⟨_, List.getElem?_eq_getElem hin⟩
            have ok := SA.out.counts x (List.mem_of_getElem? hx)
            have hB := hh.out
            have ho2 := owns_keep HO.out fun g hg => hB.block g (HO.out.lt g hg).2
            obtain ⟨g1, rfl, k1⟩ := row_part ho2 (by omega)
            have a0 : wr.cell? ⟨g1, i * 9, none⟩ = some (.int .i64 x.code) := k1 _ _ ((ansFlat_get hx (j := 0) (by omega)).trans rfl)
            have a1 : wr.cell? ⟨g1, i * 9 + 1, none⟩ = some (.int .i64 x.state) := k1 _ _ ((ansFlat_get hx (j := 1) (by omega)).trans rfl)
            have a2 : wr.cell? ⟨g1, i * 9 + 2, none⟩ = some (.int .u32 x.cnt.r) := k1 _ _ ((ansFlat_get hx (j := 2) (by omega)).trans rfl)
            have a3 : wr.cell? ⟨g1, i * 9 + 3, none⟩ = some (.int .u32 x.cnt.s) := k1 _ _ ((ansFlat_get hx (j := 3) (by omega)).trans rfl)
            have a4 : wr.cell? ⟨g1, i * 9 + 4, none⟩ = some (.int .u32 x.cnt.f) := k1 _ _ ((ansFlat_get hx (j := 4) (by omega)).trans rfl)
            have a5 : wr.cell? ⟨g1, i * 9 + 5, none⟩ = some (.int .u32 x.cnt.x) := k1 _ _ ((ansFlat_get hx (j := 5) (by omega)).trans rfl)
            have a6 : wr.cell? ⟨g1, i * 9 + 6, none⟩ = some (.int .u32 x.cnt.g) := k1 _ _ ((ansFlat_get hx (j := 6) (by omega)).trans rfl)
            have a7 : wr.cell? ⟨g1, i * 9 + 7, none⟩ = some (.int .u32 x.cnt.h) := k1 _ _ ((ansFlat_get hx (j := 7) (by omega)).trans rfl)
            have a8 : wr.cell? ⟨g1, i * 9 + 8, none⟩ = some (.int .u64 x.cleared) := k1 _ _ ((ansFlat_get hx (j := 8) (by omega)).trans rfl)
            have HB := Lib.hid hB
            have s0 := ok.s0
            have f0 := ok.f0
            have x0 := ok.x0
            have b0 := ok.g0
            have b1 := ok.h0
            have b2 := ok.gs
            have b3 := ok.hf
            have b4 := ok.sum
            have b5 := ok.top
            have b6 := ok.gh
            have d1 : x.cnt.s + x.cnt.f ≤ 4294967295 := by omega
            have d2 : x.cnt.s + x.cnt.f + x.cnt.x ≤ 4294967295 := by omega
            clear hB hh hx k1 ho2 c4 z4 ok
            by_cases cg : 0 < x.cnt.g
            · have ch : ¬ 0 < x.cnt.h := by omega
              clear b6
              go_wp2_with fail
              go_roundg (q.out.length - (i + 1))
              case measure => omega
              case rel => exact ⟨i + 1, rfl, hin, by first | rfl | simp, Lib.hid ((HB.out.alloc (by exact HB.out.size) _).alloc (by have := HB.out.size; simp; omega) _)⟩
            · clear b6
              go_wp2_with fail
              go_roundg (q.out.length - (i + 1))
              case measure => omega
              case rel => exact ⟨i + 1, rfl, hin, by first | rfl | simp, Lib.hid ((HB.out.alloc (by exact HB.out.size) _).alloc (by have := HB.out.size; simp; omega) _)⟩
          · have hiz : ¬ ((i : Int) < (l.length : Int)) := by omega
            have HB := Lib.hid (B4.out.trans (hh.out.mono B4.out.size))
            clear hh c4 z4
            go_wp2_with fail
            refine (brWorks_any _).mono ?_
            rintro e wz ⟨rfl, hbz⟩
            go_wp2_with fail
            go_ret
            exact ⟨rfl, HB.out.trans (hbz.mono HB.out.size)⟩
    · have hnz : ¬ ((l.length : Int) ≤ 2147483647) := by omega
      go_enter Try.func4, Try.ntmps4
      go_wp2_with fail
      refine (fits_yes r _ hf).mono ?_
      rintro e w2 ⟨rfl, hb2⟩
      have B2 := Lib.hid (((Below.refl _ _).alloc (Nat.le_refl _) _).trans (hb2.mono (by simp)) : Below w.heap.size w w2)
      have R2 := Lib.hid ((hb2.block w.heap.size (by simp)).trans (heap_alloc_new w (Obj.cells (rulesArr r) 24)))
      clear hb2
      have c2 : ∀ i, w2.cell? ⟨w.heap.size, i, none⟩ = #[.string r.name, .int .u32 r.most, .int .i64 r.interval, .int .i64 r.bucket, .int .i64 r.timeout, .int .i64 r.trip, .int .u32 r.bound, .bool r.hasGood, .int .u8 r.good, .bool r.hasOut, .int .u8 r.out][i]? := blk_cell R2.out
      have z2 := size_of_heap R2.out
      go_wp2_with fail
      go_ret
      exact ⟨rfl, B2.out⟩
  · skip
    go_enter Try.func4, Try.ntmps4
    go_wp2_with fail
    refine (fits_no r _ hf).mono ?_
    rintro e w2 ⟨rfl, hb2⟩
    have B2 := Lib.hid (((Below.refl _ _).alloc (Nat.le_refl _) _).trans (hb2.mono (by simp)) : Below w.heap.size w w2)
    have R2 := Lib.hid ((hb2.block w.heap.size (by simp)).trans (heap_alloc_new w (Obj.cells (rulesArr r) 24)))
    clear hb2
    go_wp2_with fail
    go_ret
    exact ⟨rfl, B2.out⟩

theorem fnCountsAdd_row (r : Rules) (start : Int) (va : Value) (l : List Act) (w : World) (h : RulesIn r) (_ : IntKind.i64.min ≤ start ∧ start ≤ IntKind.i64.max) (ha : ActsAt w va l) :
    Calls Try.prog 4 #[rulesV r, .int .i64 start, va] w fun e w' => e = .returned (.bool true) ∧ Below w.heap.size w w' := FnCountsAdd_any r start va l w h.ok h.m0 h.m1 ha

end Go.Proofs.Ytcjklacfoldaoaa
