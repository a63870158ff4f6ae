/- The law FnChanges as a contract: it is true. Conditions: the acts can be read, the rules' numbers are in their types' ranges. -/
import Derived.Test.YtcjklacfoldaoaaPart
import Derived.Test.YtcjklacfoldaoaaOpen
namespace Go.Proofs.Ytcjklacfoldaoaa
open Go.RowKit
attribute [local go_sem ↓] Go.wp_at_zero Go.wp_at_succ

set_option maxRecDepth 100000 in
set_option maxHeartbeats 4000000 in
theorem FnChanges_any (r : Rules) (start : Int) (va : Value) (l : List Act) (w : World) (rok : r.Ok) (m0 : 0 ≤ r.most) (m1 : r.most < 4294967296) (ha : ActsAt w va l) :
    Calls Try.prog 3 #[rulesV r, .int .i64 start, va] w fun e w' => e = .returned (.bool true) ∧ Below w.heap.size w w' := by
  have HAT := Lib.hid ha
  obtain ⟨pa, cap, rfl, _⟩ := ha
  have RO := Lib.hid rok
  clear rok
  unfold rulesV
  by_cases hf : r.name.size ≤ 2147483647
  · by_cases hn : l.length ≤ 2147483647
    · have hnz : (l.length : Int) ≤ 2147483647 := by omega
      cases hA : areActs r start l with
      | false =>
        have AA := Lib.hid hA
        clear hA
        go_enter Try.func3, Try.ntmps3
        go_wp2_with fail
        refine (fits_yes r _ hf).mono ?_
        rintro e w2 ⟨rfl, hb2⟩
        have B2 := Lib.hid (((Below.refl _ _).alloc (Nat.le_refl _) _).trans (hb2.mono (by simp)) : Below w.heap.size w w2)
        have R2 := Lib.hid ((hb2.block w.heap.size (by simp)).trans (heap_alloc_new w (Obj.cells (rulesArr r) 24)))
        clear hb2
        have c2 : ∀ i, w2.cell? ⟨w.heap.size, i, none⟩ = #[.string r.name, .int .u32 r.most, .int .i64 r.interval, .int .i64 r.bucket, .int .i64 r.timeout, .int .i64 r.trip, .int .u32 r.bound, .bool r.hasGood, .int .u8 r.good, .bool r.hasOut, .int .u8 r.out][i]? := blk_cell R2.out
        have z2 := size_of_heap R2.out
        go_wp2_with fail
        refine (areActs_any r start _ l _ RO.out m0 m1 (HAT.out.below B2.out)).mono ?_
        rintro e w3 ⟨rfl, hb3⟩
        rw [AA.out]
        have B3 := Lib.hid (B2.out.trans (hb3.mono B2.out.size))
        have R3 := Lib.hid ((hb3.block w.heap.size (size_of_heap R2.out)).trans R2.out)
        clear hb3 c2 z2
        have c3 : ∀ i, w3.cell? ⟨w.heap.size, i, none⟩ = #[.string r.name, .int .u32 r.most, .int .i64 r.interval, .int .i64 r.bucket, .int .i64 r.timeout, .int .i64 r.trip, .int .u32 r.bound, .bool r.hasGood, .int .u8 r.good, .bool r.hasOut, .int .u8 r.out][i]? := blk_cell R3.out
        have z3 := size_of_heap R3.out
        go_wp2_with fail
        refine (brWorks_any _).mono ?_
        rintro e wz ⟨rfl, hbz⟩
        go_wp2_with fail
        go_ret
        exact ⟨rfl, B3.out.trans (hbz.mono B3.out.size)⟩
      | true =>
        have AA := Lib.hid hA
        obtain ⟨q, hq⟩ := said RO.out hA m0 m1
        have SA := Lib.hid hq
        clear hA hq
        go_enter Try.func3, Try.ntmps3
        go_wp2_with fail
        refine (fits_yes r _ hf).mono ?_
        rintro e w2 ⟨rfl, hb2⟩
        have B2 := Lib.hid (((Below.refl _ _).alloc (Nat.le_refl _) _).trans (hb2.mono (by simp)) : Below w.heap.size w w2)
        have R2 := Lib.hid ((hb2.block w.heap.size (by simp)).trans (heap_alloc_new w (Obj.cells (rulesArr r) 24)))
        clear hb2
        have c2 : ∀ i, w2.cell? ⟨w.heap.size, i, none⟩ = #[.string r.name, .int .u32 r.most, .int .i64 r.interval, .int .i64 r.bucket, .int .i64 r.timeout, .int .i64 r.trip, .int .u32 r.bound, .bool r.hasGood, .int .u8 r.good, .bool r.hasOut, .int .u8 r.out][i]? := blk_cell R2.out
        have z2 := size_of_heap R2.out
        go_wp2_with fail
        refine (areActs_any r start _ l _ RO.out m0 m1 (HAT.out.below B2.out)).mono ?_
        rintro e w3 ⟨rfl, hb3⟩
        rw [AA.out]
        have B3 := Lib.hid (B2.out.trans (hb3.mono B2.out.size))
        have R3 := Lib.hid ((hb3.block w.heap.size (size_of_heap R2.out)).trans R2.out)
        clear hb3 c2 z2
        have c3 : ∀ i, w3.cell? ⟨w.heap.size, i, none⟩ = #[.string r.name, .int .u32 r.most, .int .i64 r.interval, .int .i64 r.bucket, .int .i64 r.timeout, .int .i64 r.trip, .int .u32 r.bound, .bool r.hasGood, .int .u8 r.good, .bool r.hasOut, .int .u8 r.out][i]? := blk_cell R3.out
        have z3 := size_of_heap R3.out
        go_wp2_with fail
        refine (SA.out.play _ _ (HAT.out.below B3.out)).mono ?_
        rintro e w4 ⟨vo, vc, rfl, ho, hc, hb4⟩
        have B4 := Lib.hid (B3.out.trans (hb4.mono B3.out.size))
        have R4 := Lib.hid ((hb4.block w.heap.size (size_of_heap R3.out)).trans R3.out)
        clear hb4 c3 z3
        have c4 : ∀ i, w4.cell? ⟨w.heap.size, i, none⟩ = #[.string r.name, .int .u32 r.most, .int .i64 r.interval, .int .i64 r.bucket, .int .i64 r.timeout, .int .i64 r.trip, .int .u32 r.bound, .bool r.hasGood, .int .u8 r.good, .bool r.hasOut, .int .u8 r.out][i]? := blk_cell R4.out
        have z4 := size_of_heap R4.out
        have HO := Lib.hid ho
        have HC := Lib.hid hc
        clear ho hc
        obtain ⟨pc, capc, rfl⟩ := row_len HC.out
        go_wp2_with fail
        go_loopg [9, 35] q.s.chs.length (fun g s9 s35 wx => ∃ (i : Nat) (st : Int), g = q.s.chs.length - i ∧ i ≤ q.s.chs.length ∧ s35 = .int .i64 (i : Int) ∧ s9 = .int .i64 st ∧ Hid (Below w4.heap.size w4 wx ∧ chainOk st (q.s.chs.drop i)))
        case atStart => exact ⟨0, 0, rfl, Nat.zero_le _, rfl, rfl, Lib.hid ⟨Below.refl _ _, SA.out.chain.ok⟩⟩
        case round =>
          obtain ⟨i, st, rfl, hi, rfl, rfl, hh⟩ := hrel
          have hch := SA.out.chs
          by_cases hin : i < q.s.chs.length
          · have hiz : (i : Int) < (q.s.chs.length : Int) := by omega
            obtain ⟨x, hx⟩ : ∃ x, q.s.chs[i]? = some x := ⟨_, List.getElem?_eq_getElem hin⟩
            obtain ⟨hB, hC⟩ := hh.out
            have e : q.s.chs.drop i = x :: q.s.chs.drop (i + 1) := by
              rw [List.drop_eq_getElem_cons hin]
              rw [List.getElem?_eq_getElem hin] at hx
              simp at hx
              rw [hx]
            rw [e] at hC
            obtain ⟨h1, h2, h3⟩ := hC
            have ho2 := owns_keep HC.out fun g hg => hB.block g (HC.out.lt g hg).2
            obtain ⟨g1, rfl, k1⟩ := row_part ho2 (by omega)
            obtain ⟨y1, y2⟩ := chFlat_get hx
            have a1 := k1 _ _ y1
            have a2 := k1 _ _ y2
            have HB := Lib.hid hB
            have H3 := Lib.hid h3
            clear hB hh h3 e hx k1 y1 y2 ho2 c4 z4
            subst h1
            rcases h2 with ⟨e1, e2⟩ | ⟨e1, e2⟩ | ⟨e1, e2 | e2⟩
            all_goals
              rw [e1] at a1
              rw [e2] at a2
              have E2 := Lib.hid e2
              rw [e1]
              clear e1 e2
              go_wp2_with fail
              go_roundg (q.s.chs.length - (i + 1))
              case measure => omega
              case rel => exact ⟨i + 1, x.2, rfl, hin, by first | rfl | simp, by rw [E2.out], Lib.hid ⟨HB.out.alloc (by exact HB.out.size) _, H3.out⟩⟩
          · have hiz : ¬ ((i : Int) < (q.s.chs.length : Int)) := by omega
            obtain ⟨hB, _⟩ := hh.out
            have HB := Lib.hid (B4.out.trans (hB.mono B4.out.size))
            clear hh hB c4 z4
            go_wp2_with fail
            refine (brWorks_any _).mono ?_
            rintro e wz ⟨rfl, hbz⟩
            go_wp2_with fail
            go_ret
            exact ⟨rfl, HB.out.trans (hbz.mono HB.out.size)⟩
    · have hnz : ¬ ((l.length : Int) ≤ 2147483647) := by omega
      go_enter Try.func3, Try.ntmps3
      go_wp2_with fail
      refine (fits_yes r _ hf).mono ?_
      rintro e w2 ⟨rfl, hb2⟩
      have B2 := Lib.hid (((Below.refl _ _).alloc (Nat.le_refl _) _).trans (hb2.mono (by simp)) : Below w.heap.size w w2)
      have R2 := Lib.hid ((hb2.block w.heap.size (by simp)).trans (heap_alloc_new w (Obj.cells (rulesArr r) 24)))
      clear hb2
      have c2 : ∀ i, w2.cell? ⟨w.heap.size, i, none⟩ = #[.string r.name, .int .u32 r.most, .int .i64 r.interval, .int .i64 r.bucket, .int .i64 r.timeout, .int .i64 r.trip, .int .u32 r.bound, .bool r.hasGood, .int .u8 r.good, .bool r.hasOut, .int .u8 r.out][i]? := blk_cell R2.out
      have z2 := size_of_heap R2.out
      go_wp2_with fail
      go_ret
      exact ⟨rfl, B2.out⟩
  · skip
    go_enter Try.func3, Try.ntmps3
    go_wp2_with fail
    refine (fits_no r _ hf).mono ?_
    rintro e w2 ⟨rfl, hb2⟩
    have B2 := Lib.hid (((Below.refl _ _).alloc (Nat.le_refl _) _).trans (hb2.mono (by simp)) : Below w.heap.size w w2)
    have R2 := Lib.hid ((hb2.block w.heap.size (by simp)).trans (heap_alloc_new w (Obj.cells (rulesArr r) 24)))
    clear hb2
    go_wp2_with fail
    go_ret
    exact ⟨rfl, B2.out⟩

theorem fnChanges_row (r : Rules) (start : Int) (va : Value) (l : List Act) (w : World) (h : RulesIn r) (_ : IntKind.i64.min ≤ start ∧ start ≤ IntKind.i64.max) (ha : ActsAt w va l) :
    Calls Try.prog 3 #[rulesV r, .int .i64 start, va] w fun e w' => e = .returned (.bool true) ∧ Below w.heap.size w w' := FnChanges_any r start va l w h.ok h.m0 h.m1 ha

end Go.Proofs.Ytcjklacfoldaoaa
