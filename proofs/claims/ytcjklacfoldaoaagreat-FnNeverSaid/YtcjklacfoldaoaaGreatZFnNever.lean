import Derived.Test.YtcjklacfoldaoaaGreatPartZ
import Derived.Test.YtcjklacfoldaoaaGreatRows
/- The law FnNever as a contract: it is true. Conditions: the calls can be read, the rules' numbers are in their types' ranges. -/
namespace Go.Proofs.YtcjklacfoldaoaaGreat
open Go.RowKit
attribute [local go_sem ↓] Go.wp_at_zero Go.wp_at_succ

/-- A breaker that never trips. -/
structure Nev (q : SC) (i : Nat) : Prop where
  st : q.s.state = 0
  tm : q.s.timed = false
  rr : q.s.cnt.r = i
  chs : q.s.chs = []
  len : q.out.length = i
  out : ∀ (j : Nat) (x : Told), q.out[j]? = some x → x.ran = true ∧ x.cnt.r = (j : Int) + 1
theorem Nev.step {r : Rules} {q : SC} {i : Nat} {k : Call} (ht : r.trip = 5) (h : Nev q i) (hi : i ≤ 2000) : Nev (q.step r k) (i + 1) := by
  have e1 : ∀ n, q.s.look r n = q.s := by intro n; unfold SB.look; rw [if_pos h.tm]
  have e2 : q.s.allowCode r = 0 := by unfold SB.allowCode; rw [if_neg (by rw [h.st]; decide), if_neg (by rw [h.st]; omega)]
  have e3 : q.s.allow1 r = { q.s with cnt := { q.s.cnt with r := w32 (q.s.cnt.r + 1) } } := by unfold SB.allow1; rw [if_pos e2]
  have hl : q.look r k = q.s := e1 _
  have esb : q.sb r k = q.went r k := by unfold SC.sb; rw [hl, if_pos e2]
  have key : (q.went r k).state = 0 ∧ (q.went r k).timed = false ∧ (q.went r k).cnt.r = (i : Int) + 1 ∧ (q.went r k).chs = [] := by
    have hw : w32 (q.s.cnt.r + 1) = (i : Int) + 1 := by rw [h.rr]; unfold w32; omega
    have e4 : ∀ n, (q.s.allow1 r).look r n = q.s.allow1 r := by intro n; rw [e3]; unfold SB.look; rw [if_pos h.tm]
    unfold SC.went
    rw [hl]
    unfold SB.done
    rw [e4, if_neg (by simp)]
    unfold SB.done1
    rw [e3]
    have ntrip : ∀ c, tripB r c = false := by intro c; unfold tripB; rw [ht]; rfl
    split
    · exact ⟨h.st, h.tm, hw, h.chs⟩
    · split
      · rw [if_neg (fun x => by have := x.1; rw [h.st] at this; cases this)]
        exact ⟨h.st, h.tm, hw, h.chs⟩
      · rw [if_neg (fun x => x.elim (fun y => by rw [h.st] at y; cases y) (fun y => by rw [ntrip] at y; cases y.2))]
        exact ⟨h.st, h.tm, hw, h.chs⟩
  obtain ⟨k1, k2, k3, k4⟩ := key
  refine ⟨by show (q.sb r k).state = 0; rw [esb]; exact k1, by show (q.sb r k).timed = false; rw [esb]; exact k2, by show (q.sb r k).cnt.r = _; rw [esb, k3]; omega, by show (q.sb r k).chs = []; rw [esb]; exact k4, ?_, ?_⟩
  · show (q.out ++ [_]).length = i + 1
    rw [List.length_append, h.len]; rfl
  · intro j x hx
    have hx' : (q.out ++ [{ q.told r k with cnt := (q.sb r k).cnt }])[j]? = some x := hx
    rcases Nat.lt_trichotomy j q.out.length with hj | hj | hj
    · rw [List.getElem?_append_left hj] at hx'
      exact h.out j x hx'
    · subst hj
      simp at hx'
      subst hx'
      refine ⟨?_, ?_⟩
      · show (q.told r k).ran = true
        unfold SC.told
        rw [hl, if_pos e2]
        split <;> rfl
      · show (q.sb r k).cnt.r = _
        rw [esb, k3, h.len]
    · rw [List.getElem?_eq_none (by simp; omega)] at hx'
      cases hx'
theorem Nev.run {r : Rules} (ht : r.trip = 5) (l : List Call) {q : SC} {i : Nat} (h : Nev q i) (hi : i + l.length ≤ 2000) : Nev (SC.run r q l) (i + l.length) := by
  induction l generalizing q i with
  | nil => exact h
  | cons k l ih =>
    rw [List.length_cons] at hi
    have := ih (h.step (k := k) ht (by omega)) (by omega)
    rw [List.length_cons, show i + (l.length + 1) = i + 1 + l.length by omega]
    exact this
theorem nev_start {r : Rules} (hi : r.interval = 0) (now : Int) : Nev (SC.start r now) 0 := by
  refine ⟨rfl, ?_, rfl, rfl, rfl, by intro j x hx; simp [SC.start] at hx⟩
  show (SB.clear r now SB.zero).timed = false
  unfold SB.clear SB.zero
  dsimp only
  rw [if_pos rfl, hi]
  rfl

set_option maxRecDepth 100000 in
set_option maxHeartbeats 4000000 in
theorem FnNever_any (r : Rules) (start : Int) (va : Value) (l : List Call) (w : World) (rok : r.Ok) (m0 : 0 ≤ r.most) (m1 : r.most < 4294967296) (ha : CallsAt w va l) :
    Calls Tryz.prog 5 #[rulesV r, .int .i64 start, va] w fun e w' => e = .returned (.bool true) ∧ Below w.heap.size w w' := by
  have HAT := Lib.hid ha
  obtain ⟨pa, cap, rfl, _⟩ := ha
  have RO := Lib.hid (show Rules.Ok { r with trip := 5, interval := 0 } from ⟨rok.good0, rok.good1, rok.out0, rok.out1⟩)
  clear rok
  unfold rulesV
  by_cases hf : r.name.size ≤ 2147483647
  · by_cases hn : l.length ≤ 2147483647
    · have hnz : (l.length : Int) ≤ 2147483647 := by omega
      cases hA : areCalls { r with trip := 5, interval := 0 } start l with
      | false =>
        have AA := Lib.hid hA
        clear hA
        go_enter Tryz.func5, Tryz.ntmps5
        go_wp2_with fail
        refine (fits_yes r _ hf).mono ?_
        rintro e w2 ⟨rfl, hb2⟩
        have B2 := Lib.hid (((Below.refl _ _).alloc (Nat.le_refl _) _).trans (hb2.mono (by simp)) : Below w.heap.size w w2)
        have R2 := Lib.hid ((hb2.block w.heap.size (by simp)).trans (heap_alloc_new w (Obj.cells (rulesArr r) 24)))
        clear hb2
        have c2 : ∀ i, w2.cell? ⟨w.heap.size, i, none⟩ = #[.string r.name, .int .u32 r.most, .int .i64 r.interval, .int .i64 r.bucket, .int .i64 r.timeout, .int .i64 r.trip, .int .u32 r.bound, .bool r.hasGood, .int .u8 r.good, .bool r.hasOut, .int .u8 r.out][i]? := blk_cell R2.out
        have z2 := size_of_heap R2.out
        have f2 : ∀ j, w2.frozen? ⟨w.heap.size, j, none⟩ = false := blk_free R2.out
        go_upto_region 4 with fail
        have B3 := Lib.hid ((B2.out.setCell (p := ⟨w.heap.size, 5, none⟩) (Nat.le_refl _) (.int .i64 5)).setCell (p := ⟨w.heap.size, 2, none⟩) (Nat.le_refl _) (.int .i64 0))
        have R3 := Lib.hid (show ((w2.setCell ⟨w.heap.size, 5, none⟩ (.int .i64 5)).setCell ⟨w.heap.size, 2, none⟩ (.int .i64 0)).heap[w.heap.size]? = some (Obj.cells (rulesArr { r with trip := 5, interval := 0 }) 24 (0, 0)) from (heap_set_same (heap_set_same R2.out)).trans (by simp [rulesArr]))
        clear c2 z2 f2
        generalize ((w2.setCell ⟨w.heap.size, 5, none⟩ (.int .i64 5)).setCell ⟨w.heap.size, 2, none⟩ (.int .i64 0)) = w3 at *
        have c3 : ∀ j, w3.cell? ⟨w.heap.size, j, none⟩ = #[.string r.name, .int .u32 r.most, .int .i64 0, .int .i64 r.bucket, .int .i64 r.timeout, .int .i64 5, .int .u32 r.bound, .bool r.hasGood, .int .u8 r.good, .bool r.hasOut, .int .u8 r.out][j]? := blk_cell R3.out
        have z3 := size_of_heap R3.out
        go_wp2_with fail
        refine (areCalls_any { r with trip := 5, interval := 0 } start _ l _ RO.out m0 m1 (HAT.out.below B3.out)).mono ?_
        rintro e w4 ⟨rfl, hb4⟩
        rw [AA.out]
        have B4 := Lib.hid (B3.out.trans (hb4.mono B3.out.size))
        have R4 := Lib.hid ((hb4.block w.heap.size (size_of_heap R3.out)).trans R3.out)
        clear hb4 c3 z3
        have c4 : ∀ j, w4.cell? ⟨w.heap.size, j, none⟩ = #[.string r.name, .int .u32 r.most, .int .i64 0, .int .i64 r.bucket, .int .i64 r.timeout, .int .i64 5, .int .u32 r.bound, .bool r.hasGood, .int .u8 r.good, .bool r.hasOut, .int .u8 r.out][j]? := blk_cell R4.out
        have z4 := size_of_heap R4.out
        go_wp2_with fail
        refine (brWorks_any _).mono ?_
        rintro e wz ⟨rfl, hbz⟩
        go_wp2_with fail
        go_ret
        exact ⟨rfl, B4.out.trans (hbz.mono B4.out.size)⟩
      | true =>
        have AA := Lib.hid hA
        have hq := csaid RO.out hA m0 m1
        have hnv := Nev.run (r := { r with trip := 5, interval := 0 }) rfl l (nev_start (r := { r with trip := 5, interval := 0 }) rfl start) (by have := hq.short; omega)
        obtain ⟨q, hqq⟩ : ∃ q, q = SC.run { r with trip := 5, interval := 0 } (SC.start { r with trip := 5, interval := 0 } start) l := ⟨_, rfl⟩
        rw [← hqq] at hq hnv
        have SA := Lib.hid hq
        have NV := Lib.hid hnv
        clear hA hq hqq hnv
        go_enter Tryz.func5, Tryz.ntmps5
        go_wp2_with fail
        refine (fits_yes r _ hf).mono ?_
        rintro e w2 ⟨rfl, hb2⟩
        have B2 := Lib.hid (((Below.refl _ _).alloc (Nat.le_refl _) _).trans (hb2.mono (by simp)) : Below w.heap.size w w2)
        have R2 := Lib.hid ((hb2.block w.heap.size (by simp)).trans (heap_alloc_new w (Obj.cells (rulesArr r) 24)))
        clear hb2
        have c2 : ∀ i, w2.cell? ⟨w.heap.size, i, none⟩ = #[.string r.name, .int .u32 r.most, .int .i64 r.interval, .int .i64 r.bucket, .int .i64 r.timeout, .int .i64 r.trip, .int .u32 r.bound, .bool r.hasGood, .int .u8 r.good, .bool r.hasOut, .int .u8 r.out][i]? := blk_cell R2.out
        have z2 := size_of_heap R2.out
        have f2 : ∀ j, w2.frozen? ⟨w.heap.size, j, none⟩ = false := blk_free R2.out
        go_upto_region 4 with fail
        have B3 := Lib.hid ((B2.out.setCell (p := ⟨w.heap.size, 5, none⟩) (Nat.le_refl _) (.int .i64 5)).setCell (p := ⟨w.heap.size, 2, none⟩) (Nat.le_refl _) (.int .i64 0))
        have R3 := Lib.hid (show ((w2.setCell ⟨w.heap.size, 5, none⟩ (.int .i64 5)).setCell ⟨w.heap.size, 2, none⟩ (.int .i64 0)).heap[w.heap.size]? = some (Obj.cells (rulesArr { r with trip := 5, interval := 0 }) 24 (0, 0)) from (heap_set_same (heap_set_same R2.out)).trans (by simp [rulesArr]))
        clear c2 z2 f2
        generalize ((w2.setCell ⟨w.heap.size, 5, none⟩ (.int .i64 5)).setCell ⟨w.heap.size, 2, none⟩ (.int .i64 0)) = w3 at *
        have c3 : ∀ j, w3.cell? ⟨w.heap.size, j, none⟩ = #[.string r.name, .int .u32 r.most, .int .i64 0, .int .i64 r.bucket, .int .i64 r.timeout, .int .i64 5, .int .u32 r.bound, .bool r.hasGood, .int .u8 r.good, .bool r.hasOut, .int .u8 r.out][j]? := blk_cell R3.out
        have z3 := size_of_heap R3.out
        go_wp2_with fail
        refine (areCalls_any { r with trip := 5, interval := 0 } start _ l _ RO.out m0 m1 (HAT.out.below B3.out)).mono ?_
        rintro e w4 ⟨rfl, hb4⟩
        rw [AA.out]
        have B4 := Lib.hid (B3.out.trans (hb4.mono B3.out.size))
        have R4 := Lib.hid ((hb4.block w.heap.size (size_of_heap R3.out)).trans R3.out)
        clear hb4 c3 z3
        have c4 : ∀ j, w4.cell? ⟨w.heap.size, j, none⟩ = #[.string r.name, .int .u32 r.most, .int .i64 0, .int .i64 r.bucket, .int .i64 r.timeout, .int .i64 5, .int .u32 r.bound, .bool r.hasGood, .int .u8 r.good, .bool r.hasOut, .int .u8 r.out][j]? := blk_cell R4.out
        have z4 := size_of_heap R4.out
        go_wp2_with fail
        refine (SA.out.play _ _ (HAT.out.below B4.out)).mono ?_
        rintro e w5 ⟨vo, vc, rfl, ho, hc, hb5⟩
        have B5 := Lib.hid (B4.out.trans (hb5.mono B4.out.size))
        have R5 := Lib.hid ((hb5.block w.heap.size (size_of_heap R4.out)).trans R4.out)
        clear hb5 c4 z4
        have c5 : ∀ j, w5.cell? ⟨w.heap.size, j, none⟩ = #[.string r.name, .int .u32 r.most, .int .i64 0, .int .i64 r.bucket, .int .i64 r.timeout, .int .i64 5, .int .u32 r.bound, .bool r.hasGood, .int .u8 r.good, .bool r.hasOut, .int .u8 r.out][j]? := blk_cell R5.out
        have z5 := size_of_heap R5.out
        rw [NV.out.chs] at hc
        obtain ⟨pc, kc, rfl⟩ := row_len hc
        obtain ⟨po, ko, rfl⟩ := row_len ho
        have HO := Lib.hid ho
        rw [NV.out.st]
        have elen : (q.out.length : Int) = (l.length : Int) := by rw [SA.out.len]
        have hsh := SA.out.short
        have hol := SA.out.len
        clear ho hc
        go_wp2_with fail
        go_loopg [38] q.out.length (fun g s38 wx => ∃ i : Nat, g = q.out.length - i ∧ i ≤ q.out.length ∧ s38 = .int .i64 (i : Int) ∧ Hid (Below w5.heap.size w5 wx))
        case atStart => exact ⟨0, rfl, Nat.zero_le _, rfl, Lib.hid (Below.refl _ _)⟩
        case round =>
          obtain ⟨i, rfl, hi, rfl, hh⟩ := hrel
          by_cases hin : i < q.out.length
          · have hiz : (i : Int) < (l.length : Int) := by omega
            obtain ⟨x, hx⟩ : ∃ x, q.out[i]? = some x := ⟨_, List.getElem?_eq_getElem hin⟩
            obtain ⟨hran, hr⟩ := NV.out.out i x hx
            have ho2 := owns_keep HO.out fun g hg => hh.out.block g (HO.out.lt g hg).2
            obtain ⟨g1, rfl, k1⟩ := row_part ho2 (by omega)
            have a0 : wr.cell? ⟨g1, i * 10, none⟩ = some (.bool true) := by rw [← hran]; exact k1 _ _ ((toldFlat_get hx (j := 0) (by omega)).trans rfl)
            have a1 : wr.cell? ⟨g1, i * 10 + 1, none⟩ = some (.int .i64 x.val) := k1 _ _ ((toldFlat_get hx (j := 1) (by omega)).trans rfl)
            have a2 : wr.cell? ⟨g1, i * 10 + 2, none⟩ = some (.int .i64 x.err) := k1 _ _ ((toldFlat_get hx (j := 2) (by omega)).trans rfl)
            have a3 : wr.cell? ⟨g1, i * 10 + 3, none⟩ = some (.bool x.pan) := k1 _ _ ((toldFlat_get hx (j := 3) (by omega)).trans rfl)
            have a4 : wr.cell? ⟨g1, i * 10 + 4, none⟩ = some (.int .u32 ((i : Int) + 1)) := by rw [← hr]; exact k1 _ _ ((toldFlat_get hx (j := 4) (by omega)).trans rfl)
            have a5 : wr.cell? ⟨g1, i * 10 + 5, none⟩ = some (.int .u32 x.cnt.s) := k1 _ _ ((toldFlat_get hx (j := 5) (by omega)).trans rfl)
            have a6 : wr.cell? ⟨g1, i * 10 + 6, none⟩ = some (.int .u32 x.cnt.f) := k1 _ _ ((toldFlat_get hx (j := 6) (by omega)).trans rfl)
            have a7 : wr.cell? ⟨g1, i * 10 + 7, none⟩ = some (.int .u32 x.cnt.x) := k1 _ _ ((toldFlat_get hx (j := 7) (by omega)).trans rfl)
            have a8 : wr.cell? ⟨g1, i * 10 + 8, none⟩ = some (.int .u32 x.cnt.g) := k1 _ _ ((toldFlat_get hx (j := 8) (by omega)).trans rfl)
            have a9 : wr.cell? ⟨g1, i * 10 + 9, none⟩ = some (.int .u32 x.cnt.h) := k1 _ _ ((toldFlat_get hx (j := 9) (by omega)).trans rfl)
            have HJ := Lib.hid hh.out
            have hib : (i : Int) + 1 ≤ 2000 := by omega
            clear hh ho2 k1 hx hran hr c5 z5
            go_wp2_with fail
            go_roundg (q.out.length - (i + 1))
            case measure => omega
            case rel => exact ⟨i + 1, rfl, hin, by first | rfl | simp, Lib.hid (HJ.out.alloc (by exact HJ.out.size) _)⟩
          · have hiz : ¬ ((i : Int) < (l.length : Int)) := by omega
            have HB := Lib.hid (B5.out.trans (hh.out.mono B5.out.size))
            clear hh c5 z5
            go_wp2_with fail
            refine (brWorks_any _).mono ?_
            rintro e wz ⟨rfl, hbz⟩
            go_wp2_with fail
            go_ret
            exact ⟨rfl, HB.out.trans (hbz.mono HB.out.size)⟩
    · have hnz : ¬ ((l.length : Int) ≤ 2147483647) := by omega
      go_enter Tryz.func5, Tryz.ntmps5
      go_wp2_with fail
      refine (fits_yes r _ hf).mono ?_
      rintro e w2 ⟨rfl, hb2⟩
      have B2 := Lib.hid (((Below.refl _ _).alloc (Nat.le_refl _) _).trans (hb2.mono (by simp)) : Below w.heap.size w w2)
      have R2 := Lib.hid ((hb2.block w.heap.size (by simp)).trans (heap_alloc_new w (Obj.cells (rulesArr r) 24)))
      clear hb2
      have c2 : ∀ i, w2.cell? ⟨w.heap.size, i, none⟩ = #[.string r.name, .int .u32 r.most, .int .i64 r.interval, .int .i64 r.bucket, .int .i64 r.timeout, .int .i64 r.trip, .int .u32 r.bound, .bool r.hasGood, .int .u8 r.good, .bool r.hasOut, .int .u8 r.out][i]? := blk_cell R2.out
      have z2 := size_of_heap R2.out
      go_wp2_with fail
      go_ret
      exact ⟨rfl, B2.out⟩
  · skip
    go_enter Tryz.func5, Tryz.ntmps5
    go_wp2_with fail
    refine (fits_no r _ hf).mono ?_
    rintro e w2 ⟨rfl, hb2⟩
    have B2 := Lib.hid (((Below.refl _ _).alloc (Nat.le_refl _) _).trans (hb2.mono (by simp)) : Below w.heap.size w w2)
    have R2 := Lib.hid ((hb2.block w.heap.size (by simp)).trans (heap_alloc_new w (Obj.cells (rulesArr r) 24)))
    clear hb2
    go_wp2_with fail
    go_ret
    exact ⟨rfl, B2.out⟩
theorem fnNever_row (r : Rules) (start : Int) (va : Value) (l : List Call) (w : World) (h : RulesIn r) (_ : IntKind.i64.min ≤ start ∧ start ≤ IntKind.i64.max) (ha : CallsAt w va l) :
    Calls Tryz.prog 5 #[rulesV r, .int .i64 start, va] w fun e w' => e = .returned (.bool true) ∧ Below w.heap.size w w' := FnNever_any r start va l w h.ok h.m0 h.m1 ha

end Go.Proofs.YtcjklacfoldaoaaGreat

/- The row of FnNever: it is true whatever the input, and the input reads as it did. No condition. -/
namespace Go.Proofs.YtcjklacfoldaoaaGreat
open Go.ChangeShapes Go.WideShapes Go.ChangeAt Go.RowKit Go.Deep

theorem fnNever_own : ownKnob Tryz.prog.godebug = none := by kernel_rfl
theorem fnNever_laidOut : laidOutB Tryz.prog = true := by kernel_rfl

set_option maxRecDepth 100000 in
theorem fnNever_lifted (os : Os) (started : os.Started) (H : Type) (enc : TypeId × Value → H) :
    ReturnsInHanded {} Tryz.checked os 5 .any (Rows.fnNeverSpec.pre6 enc Tryz.prog Tryz.f5 Rows.fnNeverRow.domain false) (Rows.fnNeverSpec.post enc Tryz.prog Tryz.f5 false true false false) := by
  refine returnsInHanded_of_change (C := Tryz.checked) fnNever_own started (by kernel_rfl) Tryz.func5
    (ChangeSpec.witness6 (enc := enc) (C := Tryz.checked) false ⟨#[], #[.agg #[.string ⟨#[]⟩, .int .u32 0, .int .i64 0, .int .i64 0, .int .i64 0, .int .i64 0, .int .u32 0, .bool false, .int .u8 0, .bool false, .int .u8 0], .int .i64 0, .slice none 0 0], []⟩ 20 (by kernel_rfl) (by kernel_rfl) (by kernel_rfl) (by kernel_rfl)) ?_
  intro W base args ds gs before hval0 hW hcnd _
  have hval : ∀ (j : Nat) t v, Tryz.f5.params[j]? = some t → args[j]? = some v → Value.okWide Tryz.prog W .any base t v := hval0
  have hW' := hW
  obtain ⟨p, q, hA0, hV, rfl, hfz, hnd⟩ := hW
  have hA : DataW.TrodAll enc Tryz.prog W 0 (fun _ => true) true Tryz.f5.params.toList args.toList ds p := hA0
  rw [Tryz.params5] at hA hval
  obtain ⟨v0, vs0, d0, ds0, p0, q0, e0, rfl, rfl, h0, g0⟩ := trodAll_cons hA
  obtain ⟨v1, vs1, d1, ds1, p1, q1, e1, rfl, rfl, h1, g1⟩ := trodAll_cons g0
  obtain ⟨v2, vs2, d2, ds2, p2, q2, e2, rfl, rfl, h2, g2⟩ := trodAll_cons g1
  obtain ⟨rfl, rfl, rfl⟩ := trodAll_nil g2
  obtain ⟨rfl, rfl⟩ := trodVars_none hV
  subst e2
  subst e1
  have ea : args = #[v0, v1, v2] := by cases args; simp at e0; rw [e0]
  subst ea
  clear e0
  have h0k := h0
  have h1k := h1
  have h2k := h2
  obtain ⟨r0, rfl, w0⟩ := open_rules (hval 0 24 v0 rfl rfl) h0
  obtain ⟨a1, rfl, w1⟩ := open_num Tryz.underlying2 (hval 1 2 v1 rfl rfl) h1
  obtain ⟨l2, w2⟩ := open_calls (hval 2 25 v2 rfl rfl) h2
  clear hA0 hval0
  have hlt : ∀ x ∈ p0 ++ (p1 ++ (p2 ++ [])), x.block < W.heap.size := fun x hx => by
    have := hW'.lt x (by simpa using hx)
    simpa using this
  refine (fnNever_row r0 a1 v2 l2 W w0 w1 w2).mono fun e W' ⟨he, bel⟩ => ?_
  subst he
  refine ⟨_, rfl, ?_⟩
  refine ⟨_, _, _, [], p0 ++ (p1 ++ (p2 ++ [])), [], hW', trodAll_mk1 (shut_bool Tryz.underlying4 true), ?_, rfl, bel.frame _, fun h => by cases h⟩
  exact ⟨p0, _, Below.trod fnNever_laidOut (by kernel_rfl) (of_decide_eq_true (by kernel_rfl)) h0k bel (fun x hx => hlt x (by simp [hx])), ⟨p1, _, Below.trod fnNever_laidOut (by kernel_rfl) (of_decide_eq_true (by kernel_rfl)) h1k bel (fun x hx => hlt x (by simp [hx])), ⟨p2, _, Below.trod fnNever_laidOut (by kernel_rfl) (of_decide_eq_true (by kernel_rfl)) h2k bel (fun x hx => hlt x (by simp [hx])), rfl, rfl⟩, rfl⟩, rfl⟩

theorem fnNever_holds : Rows.FnNeverSaid :=
  OpenClaim.holds_of_wide 5 Tryz.f5 rfl rfl rfl rfl rfl rfl rfl ⟨rfl, rfl, rfl, rfl, rfl⟩ rfl rfl rfl rfl rfl (by kernel_rfl) Tryz.func5 (by kernel_rfl)
    (of_decide_eq_true (by kernel_rfl)) (by unfold Func.isWrapper; first | (rw [if_pos (by decide +kernel)]; kernel_rfl) | (rw [if_neg (by decide +kernel)]; exact ⟨rfl, rfl⟩))
    (fun os started H enc _ => fnNever_lifted os started H enc)

#print axioms fnNever_holds
end Go.Proofs.YtcjklacfoldaoaaGreat
