/- Contract of toNewGeneration. Conditions: three blocks hold the breaker, its numbers are in their ranges, the time too. -/
import Derived.Test.YtcjklacfoldaoaaModelB
import Derived.Test.YtcjklacfoldaoaaRcClear
import Derived.Deep.RegionHeld3
import Derived.Deep.DrawnRows
namespace Go.Proofs.Ytcjklacfoldaoaa
open Go.RowKit
attribute [local go_sem ↓] Go.wp_at_zero Go.wp_at_succ

/-- The first half: the number, the begin, the counts. -/
def CB.gen1 (c : CB) (now : Int) : CB := { c with gen := w64u (c.gen + 1), start := now }
def CB.gen2 (c : CB) (now : Int) : CB := { c with gen := w64u (c.gen + 1), start := now, rc := c.rc.clear }

set_option maxHeartbeats 1000000 in
theorem newGen_half (L : Loc) (r : Rules) (c : CB) (now : Int) (w : World) (h : CBat w L r c) (lok : L.Ok) (few : c.rc.bs.length ≤ 1000000) (hst : c.state = 1) (_t0 : -3000000000000000000 ≤ now) (_t1 : now ≤ 3000000000000000000) (_q0 : 0 ≤ c.interval) (_q1 : c.interval ≤ 1000000000000000000) (_q2 : 0 ≤ c.timeout) (_q3 : c.timeout ≤ 1000000000000000000) :
    Calls Try.prog 72 #[.pointer (some ⟨L.cb, 0, none⟩), .agg #[.int .u64 (NS now), .int .i64 (SEC now), .pointer none]] w fun e w' => e = .returned (.tuple #[]) ∧ CBat w' L r (c.newGen now) ∧ Mod [L.cb, L.rc, L.bk] w w' := by
  have hE : c.expNew now = T0 := by unfold CB.expNew; rw [if_neg (by omega), if_neg (by omega)]
  have HE := Lib.hid hE
  clear hE
  obtain ⟨hc, hf⟩ := h.cells
  have g3 := hc 3
  have g5 := hc 5
  have g10 := hc 10
  have g11 := hc 11
  have g12 := hc 12
  have g13 := hc 13
  have g14 := hc 14
  have g15 := hc 15
  have g16 := hc 16
  have g17 := hc 17
  have g18 := hc 18
  simp at g3 g5 g10 g11 g12 g13 g14 g15 g16 g17 g18
  rw [hst] at g10
  have H := Lib.hid h
  have HS := Lib.hid hst
  have HL := Lib.hid lok
  have hz := size_of_heap h.cb
  have n1 : ¬ L.rc = L.cb := lok.cb_rc.symm
  clear h hst hc lok
  go_enter Try.func72, Try.ntmps72
  go_wp2_with fail
  have H1 := Lib.hid (show CBat ((((w.setCell ⟨L.cb, 11, none⟩ (.int .u64 (w64u (c.gen + 1)))).setCell ⟨L.cb, 13, none⟩ (.int .u64 (NS now))).setCell ⟨L.cb, 14, none⟩ (.int .i64 (SEC now))).setCell ⟨L.cb, 15, none⟩ (.pointer none)) L r (c.gen1 now) from (H.out.setGen HL.out _).setStart HL.out now)
  have M1 := Lib.hid (show Mod [L.cb, L.rc, L.bk] w ((((w.setCell ⟨L.cb, 11, none⟩ (.int .u64 (w64u (c.gen + 1)))).setCell ⟨L.cb, 13, none⟩ (.int .u64 (NS now))).setCell ⟨L.cb, 14, none⟩ (.int .i64 (SEC now))).setCell ⟨L.cb, 15, none⟩ (.pointer none)) from ((((Mod.refl _ _).setCell _ _ (by simp)).setCell _ _ (by simp)).setCell _ _ (by simp)).setCell _ _ (by simp))
  have hz1 : w.heap.size = ((((w.setCell ⟨L.cb, 11, none⟩ (.int .u64 (w64u (c.gen + 1)))).setCell ⟨L.cb, 13, none⟩ (.int .u64 (NS now))).setCell ⟨L.cb, 14, none⟩ (.int .i64 (SEC now))).setCell ⟨L.cb, 15, none⟩ (.pointer none)).heap.size := by simp
  rw [hz1]
  have HZ1 := Lib.hid hz1
  clear hz1 g3 g5 g10 g11 g12 g13 g14 g15 g16 g17 g18 hf
  unfold w64u at *
  generalize ((((w.setCell ⟨L.cb, 11, none⟩ (.int .u64 (IntKind.u64.wrap (c.gen + 1)))).setCell ⟨L.cb, 13, none⟩ (.int .u64 (NS now))).setCell ⟨L.cb, 14, none⟩ (.int .i64 (SEC now))).setCell ⟨L.cb, 15, none⟩ (.pointer none)) = W1 at *
  refine (rcClear_any L.rc L.bk c.rc _ (H1.out.rc.alloc _) HL.out.rc_bk few).mono ?_
  rintro e w2 ⟨rfl, HR, HM⟩
  have H2 := Lib.hid (show CBat w2 L r (c.gen2 now) from CBat.withRc (c := c.gen1 now) (HM.heap (H1.out.alloc _).cb (by simp [HL.out.cb_rc, HL.out.cb_bk])) HR)
  have M2 := Lib.hid ((M1.out.alloc (Obj.cells #[Value.int IntKind.u64 (NS now), Value.int IntKind.i64 (SEC now), Value.pointer none] 118)).trans (HM.mono (by simp)))
  have hb : W1.heap.size ∉ [L.rc, L.bk] := by
    have e1 := size_of_heap H1.out.rc.1
    have e2 := size_of_heap H1.out.rc.2
    simp; omega
  obtain ⟨b0, _, hz2, B0⟩ := keptM HM (heap_alloc_new W1 _) hb
  clear HR HM H1
  obtain ⟨hc, hf⟩ := H2.out.cells
  have g3 := hc 3
  have g5 := hc 5
  have g10 := hc 10
  have g11 := hc 11
  have g12 := hc 12
  have g13 := hc 13
  have g14 := hc 14
  have g15 := hc 15
  have g16 := hc 16
  have g17 := hc 17
  have g18 := hc 18
  simp [CB.gen2] at g3 g5 g10 g11 g12 g13 g14 g15 g16 g17 g18
  rw [HS.out] at g10
  clear hc
  have z1 : w2.heap.size ≠ L.cb := by have := size_of_heap H2.out.cb; omega
  have hz3 := size_of_heap H2.out.cb
  go_wp2_with fail
  go_end0
  refine ⟨rfl, ?_, ?_⟩
  · have X := (H2.out.setExp HL.out T0).alloc (Obj.cells #[Value.int IntKind.u64 0, Value.int IntKind.i64 0, Value.pointer none] 118)
    simp only [NS_T0, SEC_T0] at X
    have e : c.newGen now = { c.gen2 now with exp := T0 } := by unfold CB.newGen; rw [HE.out]; rfl
    rw [e]; exact X
  · exact (((M2.out.setCell _ _ (by simp)).setCell _ _ (by simp)).setCell _ _ (by simp)).alloc _


set_option maxHeartbeats 1000000 in
theorem newGen_open (L : Loc) (r : Rules) (c : CB) (now : Int) (w : World) (h : CBat w L r c) (lok : L.Ok) (few : c.rc.bs.length ≤ 1000000) (hst : c.state = 2) (t0 : -3000000000000000000 ≤ now) (t1 : now ≤ 3000000000000000000) (_q0 : 0 ≤ c.interval) (_q1 : c.interval ≤ 1000000000000000000) (q2 : 0 ≤ c.timeout) (q3 : c.timeout ≤ 1000000000000000000) :
    Calls Try.prog 72 #[.pointer (some ⟨L.cb, 0, none⟩), .agg #[.int .u64 (NS now), .int .i64 (SEC now), .pointer none]] w fun e w' => e = .returned (.tuple #[]) ∧ CBat w' L r (c.newGen now) ∧ Mod [L.cb, L.rc, L.bk] w w' := by
  have hE : c.expNew now = now + c.timeout := by unfold CB.expNew; rw [if_neg (by omega), if_pos (by omega)]
  have HE := Lib.hid hE
  clear hE
  obtain ⟨hc, hf⟩ := h.cells
  have g3 := hc 3
  have g5 := hc 5
  have g10 := hc 10
  have g11 := hc 11
  have g12 := hc 12
  have g13 := hc 13
  have g14 := hc 14
  have g15 := hc 15
  have g16 := hc 16
  have g17 := hc 17
  have g18 := hc 18
  simp at g3 g5 g10 g11 g12 g13 g14 g15 g16 g17 g18
  rw [hst] at g10
  have H := Lib.hid h
  have HS := Lib.hid hst
  have HL := Lib.hid lok
  have hz := size_of_heap h.cb
  have n1 : ¬ L.rc = L.cb := lok.cb_rc.symm
  clear h hst hc lok
  go_enter Try.func72, Try.ntmps72
  go_wp2_with fail
  have H1 := Lib.hid (show CBat ((((w.setCell ⟨L.cb, 11, none⟩ (.int .u64 (w64u (c.gen + 1)))).setCell ⟨L.cb, 13, none⟩ (.int .u64 (NS now))).setCell ⟨L.cb, 14, none⟩ (.int .i64 (SEC now))).setCell ⟨L.cb, 15, none⟩ (.pointer none)) L r (c.gen1 now) from (H.out.setGen HL.out _).setStart HL.out now)
  have M1 := Lib.hid (show Mod [L.cb, L.rc, L.bk] w ((((w.setCell ⟨L.cb, 11, none⟩ (.int .u64 (w64u (c.gen + 1)))).setCell ⟨L.cb, 13, none⟩ (.int .u64 (NS now))).setCell ⟨L.cb, 14, none⟩ (.int .i64 (SEC now))).setCell ⟨L.cb, 15, none⟩ (.pointer none)) from ((((Mod.refl _ _).setCell _ _ (by simp)).setCell _ _ (by simp)).setCell _ _ (by simp)).setCell _ _ (by simp))
  have hz1 : w.heap.size = ((((w.setCell ⟨L.cb, 11, none⟩ (.int .u64 (w64u (c.gen + 1)))).setCell ⟨L.cb, 13, none⟩ (.int .u64 (NS now))).setCell ⟨L.cb, 14, none⟩ (.int .i64 (SEC now))).setCell ⟨L.cb, 15, none⟩ (.pointer none)).heap.size := by simp
  rw [hz1]
  have HZ1 := Lib.hid hz1
  clear hz1 g3 g5 g10 g11 g12 g13 g14 g15 g16 g17 g18 hf
  unfold w64u at *
  generalize ((((w.setCell ⟨L.cb, 11, none⟩ (.int .u64 (IntKind.u64.wrap (c.gen + 1)))).setCell ⟨L.cb, 13, none⟩ (.int .u64 (NS now))).setCell ⟨L.cb, 14, none⟩ (.int .i64 (SEC now))).setCell ⟨L.cb, 15, none⟩ (.pointer none)) = W1 at *
  refine (rcClear_any L.rc L.bk c.rc _ (H1.out.rc.alloc _) HL.out.rc_bk few).mono ?_
  rintro e w2 ⟨rfl, HR, HM⟩
  have H2 := Lib.hid (show CBat w2 L r (c.gen2 now) from CBat.withRc (c := c.gen1 now) (HM.heap (H1.out.alloc _).cb (by simp [HL.out.cb_rc, HL.out.cb_bk])) HR)
  have M2 := Lib.hid ((M1.out.alloc (Obj.cells #[Value.int IntKind.u64 (NS now), Value.int IntKind.i64 (SEC now), Value.pointer none] 118)).trans (HM.mono (by simp)))
  have hb : W1.heap.size ∉ [L.rc, L.bk] := by
    have e1 := size_of_heap H1.out.rc.1
    have e2 := size_of_heap H1.out.rc.2
    simp; omega
  obtain ⟨b0, _, hz2, B0⟩ := keptM HM (heap_alloc_new W1 _) hb
  clear HR HM H1
  obtain ⟨hc, hf⟩ := H2.out.cells
  have g3 := hc 3
  have g5 := hc 5
  have g10 := hc 10
  have g11 := hc 11
  have g12 := hc 12
  have g13 := hc 13
  have g14 := hc 14
  have g15 := hc 15
  have g16 := hc 16
  have g17 := hc 17
  have g18 := hc 18
  simp [CB.gen2] at g3 g5 g10 g11 g12 g13 g14 g15 g16 g17 g18
  rw [HS.out] at g10
  clear hc
  have z1 : w2.heap.size ≠ L.cb := by have := size_of_heap H2.out.cb; omega
  have hz3 := size_of_heap H2.out.cb
  have HA := Lib.hid (H2.out.alloc (Obj.cells #[Value.int IntKind.u64 0, Value.int IntKind.i64 0, Value.pointer none] 118))
  have BA := Lib.hid (heap_alloc_lt (o := Obj.cells #[Value.int IntKind.u64 0, Value.int IntKind.i64 0, Value.pointer none] 118) B0)
  have MA := Lib.hid (M2.out.alloc (Obj.cells #[Value.int IntKind.u64 0, Value.int IntKind.i64 0, Value.pointer none] 118))
  have zA : W1.heap.size ≠ L.cb := by have := size_of_heap H.out.cb; have := HZ1.out; omega
  have zA' : L.cb ≠ W1.heap.size := zA.symm
  have zB : W1.heap.size ≠ w2.heap.size := by omega
  have b0' := b0 0
  have b1' := b0 1
  have b2' := b0 2
  simp at b0' b1' b2'
  clear B0 b0
  go_wp2_with fail
  go_region_held3 (fun w' => w'.cell? ⟨W1.heap.size, 0, none⟩ = some (.int .u64 (NS now)) ∧ w'.cell? ⟨W1.heap.size, 1, none⟩ = some (.int .i64 (SEC now)) ∧ w'.cell? ⟨W1.heap.size, 2, none⟩ = some (.pointer none) ∧ w'.cell? ⟨L.cb, 5, none⟩ = some (.int .i64 c.timeout)) (first | (go_keep; done) | ((try dsimp only); refine ⟨?_, ?_, ?_, ?_⟩ <;> first | (go_keep; done) | (simp [p3, World.cell?_setCell_other])))
    ((first | (go_at_call 89; refine (add_any now c.timeout _ (by omega) (by omega) (by omega) (by omega)).mono ?_; rintro e w3 ⟨rfl, hb3⟩; have H3 := Lib.hid ((CBat.drew HA.out).keep (S := []) (Mod.of_below hb3) (by simp) (by simp) (by simp)); obtain ⟨hc3, hf3⟩ := H3.out.cells; obtain ⟨c3, _, hz3, _⟩ := kept hb3 (heap_drew BA.out); have p0 := c3 0; have p1 := c3 1; have p2 := c3 2; have p3 := hc3 5; have p16 := hc3 16; have p17 := hc3 17; have p18 := hc3 18; simp [CB.gen2] at p0 p1 p2 p3 p16 p17 p18; clear c3 hc3)))
  go_wp2_with fail
  go_end0
  refine ⟨rfl, ?_, ?_⟩
  · have X := H3.out.setExp HL.out (now + c.timeout)
    have e : c.newGen now = { c.gen2 now with exp := now + c.timeout } := by unfold CB.newGen; rw [HE.out]; rfl
    rw [e]; exact X
  · exact (((MA.out.drew.trans (Mod.of_below hb3)).setCell _ _ (by simp)).setCell _ _ (by simp)).setCell _ _ (by simp)


set_option maxHeartbeats 1000000 in
theorem newGen_noint (L : Loc) (r : Rules) (c : CB) (now : Int) (w : World) (h : CBat w L r c) (lok : L.Ok) (few : c.rc.bs.length ≤ 1000000) (hst : c.state = 0) (hi : c.interval = 0) (_t0 : -3000000000000000000 ≤ now) (_t1 : now ≤ 3000000000000000000) (_q0 : 0 ≤ c.interval) (_q1 : c.interval ≤ 1000000000000000000) (_q2 : 0 ≤ c.timeout) (_q3 : c.timeout ≤ 1000000000000000000) :
    Calls Try.prog 72 #[.pointer (some ⟨L.cb, 0, none⟩), .agg #[.int .u64 (NS now), .int .i64 (SEC now), .pointer none]] w fun e w' => e = .returned (.tuple #[]) ∧ CBat w' L r (c.newGen now) ∧ Mod [L.cb, L.rc, L.bk] w w' := by
  have hE : c.expNew now = T0 := by unfold CB.expNew; rw [if_pos hst, if_pos (.inl hi)]
  have HE := Lib.hid hE
  clear hE
  obtain ⟨hc, hf⟩ := h.cells
  have g3 := hc 3
  have g5 := hc 5
  have g10 := hc 10
  have g11 := hc 11
  have g12 := hc 12
  have g13 := hc 13
  have g14 := hc 14
  have g15 := hc 15
  have g16 := hc 16
  have g17 := hc 17
  have g18 := hc 18
  simp at g3 g5 g10 g11 g12 g13 g14 g15 g16 g17 g18
  rw [hst] at g10
  have H := Lib.hid h
  have HS := Lib.hid hst
  have HL := Lib.hid lok
  have hz := size_of_heap h.cb
  have n1 : ¬ L.rc = L.cb := lok.cb_rc.symm
  clear h hst hc lok
  go_enter Try.func72, Try.ntmps72
  go_wp2_with fail
  have H1 := Lib.hid (show CBat ((((w.setCell ⟨L.cb, 11, none⟩ (.int .u64 (w64u (c.gen + 1)))).setCell ⟨L.cb, 13, none⟩ (.int .u64 (NS now))).setCell ⟨L.cb, 14, none⟩ (.int .i64 (SEC now))).setCell ⟨L.cb, 15, none⟩ (.pointer none)) L r (c.gen1 now) from (H.out.setGen HL.out _).setStart HL.out now)
  have M1 := Lib.hid (show Mod [L.cb, L.rc, L.bk] w ((((w.setCell ⟨L.cb, 11, none⟩ (.int .u64 (w64u (c.gen + 1)))).setCell ⟨L.cb, 13, none⟩ (.int .u64 (NS now))).setCell ⟨L.cb, 14, none⟩ (.int .i64 (SEC now))).setCell ⟨L.cb, 15, none⟩ (.pointer none)) from ((((Mod.refl _ _).setCell _ _ (by simp)).setCell _ _ (by simp)).setCell _ _ (by simp)).setCell _ _ (by simp))
  have hz1 : w.heap.size = ((((w.setCell ⟨L.cb, 11, none⟩ (.int .u64 (w64u (c.gen + 1)))).setCell ⟨L.cb, 13, none⟩ (.int .u64 (NS now))).setCell ⟨L.cb, 14, none⟩ (.int .i64 (SEC now))).setCell ⟨L.cb, 15, none⟩ (.pointer none)).heap.size := by simp
  rw [hz1]
  have HZ1 := Lib.hid hz1
  clear hz1 g3 g5 g10 g11 g12 g13 g14 g15 g16 g17 g18 hf
  unfold w64u at *
  generalize ((((w.setCell ⟨L.cb, 11, none⟩ (.int .u64 (IntKind.u64.wrap (c.gen + 1)))).setCell ⟨L.cb, 13, none⟩ (.int .u64 (NS now))).setCell ⟨L.cb, 14, none⟩ (.int .i64 (SEC now))).setCell ⟨L.cb, 15, none⟩ (.pointer none)) = W1 at *
  refine (rcClear_any L.rc L.bk c.rc _ (H1.out.rc.alloc _) HL.out.rc_bk few).mono ?_
  rintro e w2 ⟨rfl, HR, HM⟩
  have H2 := Lib.hid (show CBat w2 L r (c.gen2 now) from CBat.withRc (c := c.gen1 now) (HM.heap (H1.out.alloc _).cb (by simp [HL.out.cb_rc, HL.out.cb_bk])) HR)
  have M2 := Lib.hid ((M1.out.alloc (Obj.cells #[Value.int IntKind.u64 (NS now), Value.int IntKind.i64 (SEC now), Value.pointer none] 118)).trans (HM.mono (by simp)))
  have hb : W1.heap.size ∉ [L.rc, L.bk] := by
    have e1 := size_of_heap H1.out.rc.1
    have e2 := size_of_heap H1.out.rc.2
    simp; omega
  obtain ⟨b0, _, hz2, B0⟩ := keptM HM (heap_alloc_new W1 _) hb
  clear HR HM H1
  obtain ⟨hc, hf⟩ := H2.out.cells
  have g3 := hc 3
  have g5 := hc 5
  have g10 := hc 10
  have g11 := hc 11
  have g12 := hc 12
  have g13 := hc 13
  have g14 := hc 14
  have g15 := hc 15
  have g16 := hc 16
  have g17 := hc 17
  have g18 := hc 18
  simp [CB.gen2] at g3 g5 g10 g11 g12 g13 g14 g15 g16 g17 g18
  rw [HS.out] at g10
  clear hc
  have z1 : w2.heap.size ≠ L.cb := by have := size_of_heap H2.out.cb; omega
  have hz3 := size_of_heap H2.out.cb
  rw [hi] at g3
  have HI := Lib.hid hi
  clear hi
  go_wp2_with fail
  go_end0
  refine ⟨rfl, ?_, ?_⟩
  · have X := (H2.out.setExp HL.out T0).alloc (Obj.cells #[Value.int IntKind.u64 0, Value.int IntKind.i64 0, Value.pointer none] 118)
    simp only [NS_T0, SEC_T0] at X
    have e : c.newGen now = { c.gen2 now with exp := T0 } := by unfold CB.newGen; rw [HE.out]; rfl
    rw [e]; exact X
  · exact (((M2.out.setCell _ _ (by simp)).setCell _ _ (by simp)).setCell _ _ (by simp)).alloc _


set_option maxHeartbeats 1000000 in
theorem newGen_roll (L : Loc) (r : Rules) (c : CB) (now : Int) (w : World) (h : CBat w L r c) (lok : L.Ok) (few : c.rc.bs.length ≤ 1000000) (hst : c.state = 0) (hi : c.interval ≠ 0) (hn : 2 ≤ c.rc.bs.length) (_t0 : -3000000000000000000 ≤ now) (_t1 : now ≤ 3000000000000000000) (_q0 : 0 ≤ c.interval) (_q1 : c.interval ≤ 1000000000000000000) (_q2 : 0 ≤ c.timeout) (_q3 : c.timeout ≤ 1000000000000000000) :
    Calls Try.prog 72 #[.pointer (some ⟨L.cb, 0, none⟩), .agg #[.int .u64 (NS now), .int .i64 (SEC now), .pointer none]] w fun e w' => e = .returned (.tuple #[]) ∧ CBat w' L r (c.newGen now) ∧ Mod [L.cb, L.rc, L.bk] w w' := by
  have hE : c.expNew now = T0 := by unfold CB.expNew; rw [if_pos hst, if_pos (.inr hn)]
  have HE := Lib.hid hE
  clear hE
  obtain ⟨hc, hf⟩ := h.cells
  have g3 := hc 3
  have g5 := hc 5
  have g10 := hc 10
  have g11 := hc 11
  have g12 := hc 12
  have g13 := hc 13
  have g14 := hc 14
  have g15 := hc 15
  have g16 := hc 16
  have g17 := hc 17
  have g18 := hc 18
  simp at g3 g5 g10 g11 g12 g13 g14 g15 g16 g17 g18
  rw [hst] at g10
  have H := Lib.hid h
  have HS := Lib.hid hst
  have HL := Lib.hid lok
  have hz := size_of_heap h.cb
  have n1 : ¬ L.rc = L.cb := lok.cb_rc.symm
  clear h hst hc lok
  go_enter Try.func72, Try.ntmps72
  go_wp2_with fail
  have H1 := Lib.hid (show CBat ((((w.setCell ⟨L.cb, 11, none⟩ (.int .u64 (w64u (c.gen + 1)))).setCell ⟨L.cb, 13, none⟩ (.int .u64 (NS now))).setCell ⟨L.cb, 14, none⟩ (.int .i64 (SEC now))).setCell ⟨L.cb, 15, none⟩ (.pointer none)) L r (c.gen1 now) from (H.out.setGen HL.out _).setStart HL.out now)
  have M1 := Lib.hid (show Mod [L.cb, L.rc, L.bk] w ((((w.setCell ⟨L.cb, 11, none⟩ (.int .u64 (w64u (c.gen + 1)))).setCell ⟨L.cb, 13, none⟩ (.int .u64 (NS now))).setCell ⟨L.cb, 14, none⟩ (.int .i64 (SEC now))).setCell ⟨L.cb, 15, none⟩ (.pointer none)) from ((((Mod.refl _ _).setCell _ _ (by simp)).setCell _ _ (by simp)).setCell _ _ (by simp)).setCell _ _ (by simp))
  have hz1 : w.heap.size = ((((w.setCell ⟨L.cb, 11, none⟩ (.int .u64 (w64u (c.gen + 1)))).setCell ⟨L.cb, 13, none⟩ (.int .u64 (NS now))).setCell ⟨L.cb, 14, none⟩ (.int .i64 (SEC now))).setCell ⟨L.cb, 15, none⟩ (.pointer none)).heap.size := by simp
  rw [hz1]
  have HZ1 := Lib.hid hz1
  clear hz1 g3 g5 g10 g11 g12 g13 g14 g15 g16 g17 g18 hf
  unfold w64u at *
  generalize ((((w.setCell ⟨L.cb, 11, none⟩ (.int .u64 (IntKind.u64.wrap (c.gen + 1)))).setCell ⟨L.cb, 13, none⟩ (.int .u64 (NS now))).setCell ⟨L.cb, 14, none⟩ (.int .i64 (SEC now))).setCell ⟨L.cb, 15, none⟩ (.pointer none)) = W1 at *
  refine (rcClear_any L.rc L.bk c.rc _ (H1.out.rc.alloc _) HL.out.rc_bk few).mono ?_
  rintro e w2 ⟨rfl, HR, HM⟩
  have H2 := Lib.hid (show CBat w2 L r (c.gen2 now) from CBat.withRc (c := c.gen1 now) (HM.heap (H1.out.alloc _).cb (by simp [HL.out.cb_rc, HL.out.cb_bk])) HR)
  have M2 := Lib.hid ((M1.out.alloc (Obj.cells #[Value.int IntKind.u64 (NS now), Value.int IntKind.i64 (SEC now), Value.pointer none] 118)).trans (HM.mono (by simp)))
  have hb : W1.heap.size ∉ [L.rc, L.bk] := by
    have e1 := size_of_heap H1.out.rc.1
    have e2 := size_of_heap H1.out.rc.2
    simp; omega
  obtain ⟨b0, _, hz2, B0⟩ := keptM HM (heap_alloc_new W1 _) hb
  clear HR HM H1
  obtain ⟨hc, hf⟩ := H2.out.cells
  have g3 := hc 3
  have g5 := hc 5
  have g10 := hc 10
  have g11 := hc 11
  have g12 := hc 12
  have g13 := hc 13
  have g14 := hc 14
  have g15 := hc 15
  have g16 := hc 16
  have g17 := hc 17
  have g18 := hc 18
  simp [CB.gen2] at g3 g5 g10 g11 g12 g13 g14 g15 g16 g17 g18
  rw [HS.out] at g10
  clear hc
  have z1 : w2.heap.size ≠ L.cb := by have := size_of_heap H2.out.cb; omega
  have hz3 := size_of_heap H2.out.cb
  have hi' : (c.interval == 0) = false := by simpa using hi
  have hn' : (2 : Int) ≤ (c.rc.bs.length : Int) := by omega
  have g7 : w2.cell? ⟨L.rc, 7, none⟩ = some (.slice (some ⟨L.bk, 0, none⟩) c.rc.bs.length c.rc.bs.length) := by
    have := H2.out.rc.cells.1 7
    simpa [CB.gen2, RC.clear] using this
  have z5 : L.rc ≠ w2.heap.size := by have := size_of_heap H2.out.rc.1; omega
  have z6 := z5.symm
  have z7 := size_of_heap H2.out.rc.1
  go_wp2_with fail
  go_end0
  refine ⟨rfl, ?_, ?_⟩
  · have X := (H2.out.setExp HL.out T0).alloc (Obj.cells #[Value.int IntKind.u64 0, Value.int IntKind.i64 0, Value.pointer none] 118)
    simp only [NS_T0, SEC_T0] at X
    have e : c.newGen now = { c.gen2 now with exp := T0 } := by unfold CB.newGen; rw [HE.out]; rfl
    rw [e]; exact X
  · exact (((M2.out.setCell _ _ (by simp)).setCell _ _ (by simp)).setCell _ _ (by simp)).alloc _


set_option maxHeartbeats 1000000 in
theorem newGen_fixed (L : Loc) (r : Rules) (c : CB) (now : Int) (w : World) (h : CBat w L r c) (lok : L.Ok) (few : c.rc.bs.length ≤ 1000000) (hst : c.state = 0) (hi : c.interval ≠ 0) (hn : c.rc.bs.length < 2) (t0 : -3000000000000000000 ≤ now) (t1 : now ≤ 3000000000000000000) (q0 : 0 ≤ c.interval) (q1 : c.interval ≤ 1000000000000000000) (_q2 : 0 ≤ c.timeout) (_q3 : c.timeout ≤ 1000000000000000000) :
    Calls Try.prog 72 #[.pointer (some ⟨L.cb, 0, none⟩), .agg #[.int .u64 (NS now), .int .i64 (SEC now), .pointer none]] w fun e w' => e = .returned (.tuple #[]) ∧ CBat w' L r (c.newGen now) ∧ Mod [L.cb, L.rc, L.bk] w w' := by
  have hE : c.expNew now = now + c.interval := by unfold CB.expNew; rw [if_pos hst, if_neg (by omega)]
  have HE := Lib.hid hE
  clear hE
  obtain ⟨hc, hf⟩ := h.cells
  have g3 := hc 3
  have g5 := hc 5
  have g10 := hc 10
  have g11 := hc 11
  have g12 := hc 12
  have g13 := hc 13
  have g14 := hc 14
  have g15 := hc 15
  have g16 := hc 16
  have g17 := hc 17
  have g18 := hc 18
  simp at g3 g5 g10 g11 g12 g13 g14 g15 g16 g17 g18
  rw [hst] at g10
  have H := Lib.hid h
  have HS := Lib.hid hst
  have HL := Lib.hid lok
  have hz := size_of_heap h.cb
  have n1 : ¬ L.rc = L.cb := lok.cb_rc.symm
  clear h hst hc lok
  go_enter Try.func72, Try.ntmps72
  go_wp2_with fail
  have H1 := Lib.hid (show CBat ((((w.setCell ⟨L.cb, 11, none⟩ (.int .u64 (w64u (c.gen + 1)))).setCell ⟨L.cb, 13, none⟩ (.int .u64 (NS now))).setCell ⟨L.cb, 14, none⟩ (.int .i64 (SEC now))).setCell ⟨L.cb, 15, none⟩ (.pointer none)) L r (c.gen1 now) from (H.out.setGen HL.out _).setStart HL.out now)
  have M1 := Lib.hid (show Mod [L.cb, L.rc, L.bk] w ((((w.setCell ⟨L.cb, 11, none⟩ (.int .u64 (w64u (c.gen + 1)))).setCell ⟨L.cb, 13, none⟩ (.int .u64 (NS now))).setCell ⟨L.cb, 14, none⟩ (.int .i64 (SEC now))).setCell ⟨L.cb, 15, none⟩ (.pointer none)) from ((((Mod.refl _ _).setCell _ _ (by simp)).setCell _ _ (by simp)).setCell _ _ (by simp)).setCell _ _ (by simp))
  have hz1 : w.heap.size = ((((w.setCell ⟨L.cb, 11, none⟩ (.int .u64 (w64u (c.gen + 1)))).setCell ⟨L.cb, 13, none⟩ (.int .u64 (NS now))).setCell ⟨L.cb, 14, none⟩ (.int .i64 (SEC now))).setCell ⟨L.cb, 15, none⟩ (.pointer none)).heap.size := by simp
  rw [hz1]
  have HZ1 := Lib.hid hz1
  clear hz1 g3 g5 g10 g11 g12 g13 g14 g15 g16 g17 g18 hf
  unfold w64u at *
  generalize ((((w.setCell ⟨L.cb, 11, none⟩ (.int .u64 (IntKind.u64.wrap (c.gen + 1)))).setCell ⟨L.cb, 13, none⟩ (.int .u64 (NS now))).setCell ⟨L.cb, 14, none⟩ (.int .i64 (SEC now))).setCell ⟨L.cb, 15, none⟩ (.pointer none)) = W1 at *
  refine (rcClear_any L.rc L.bk c.rc _ (H1.out.rc.alloc _) HL.out.rc_bk few).mono ?_
  rintro e w2 ⟨rfl, HR, HM⟩
  have H2 := Lib.hid (show CBat w2 L r (c.gen2 now) from CBat.withRc (c := c.gen1 now) (HM.heap (H1.out.alloc _).cb (by simp [HL.out.cb_rc, HL.out.cb_bk])) HR)
  have M2 := Lib.hid ((M1.out.alloc (Obj.cells #[Value.int IntKind.u64 (NS now), Value.int IntKind.i64 (SEC now), Value.pointer none] 118)).trans (HM.mono (by simp)))
  have hb : W1.heap.size ∉ [L.rc, L.bk] := by
    have e1 := size_of_heap H1.out.rc.1
    have e2 := size_of_heap H1.out.rc.2
    simp; omega
  obtain ⟨b0, _, hz2, B0⟩ := keptM HM (heap_alloc_new W1 _) hb
  clear HR HM H1
  obtain ⟨hc, hf⟩ := H2.out.cells
  have g3 := hc 3
  have g5 := hc 5
  have g10 := hc 10
  have g11 := hc 11
  have g12 := hc 12
  have g13 := hc 13
  have g14 := hc 14
  have g15 := hc 15
  have g16 := hc 16
  have g17 := hc 17
  have g18 := hc 18
  simp [CB.gen2] at g3 g5 g10 g11 g12 g13 g14 g15 g16 g17 g18
  rw [HS.out] at g10
  clear hc
  have z1 : w2.heap.size ≠ L.cb := by have := size_of_heap H2.out.cb; omega
  have hz3 := size_of_heap H2.out.cb
  have hi' : (c.interval == 0) = false := by simpa using hi
  have hn' : ¬ (2 : Int) ≤ (c.rc.bs.length : Int) := by omega
  have g7 : w2.cell? ⟨L.rc, 7, none⟩ = some (.slice (some ⟨L.bk, 0, none⟩) c.rc.bs.length c.rc.bs.length) := by
    have := H2.out.rc.cells.1 7
    simpa [CB.gen2, RC.clear] using this
  have z5 : L.rc ≠ w2.heap.size := by have := size_of_heap H2.out.rc.1; omega
  have z6 := z5.symm
  have z7 := size_of_heap H2.out.rc.1
  have HA := Lib.hid (H2.out.alloc (Obj.cells #[Value.int IntKind.u64 0, Value.int IntKind.i64 0, Value.pointer none] 118))
  have BA := Lib.hid (heap_alloc_lt (o := Obj.cells #[Value.int IntKind.u64 0, Value.int IntKind.i64 0, Value.pointer none] 118) B0)
  have MA := Lib.hid (M2.out.alloc (Obj.cells #[Value.int IntKind.u64 0, Value.int IntKind.i64 0, Value.pointer none] 118))
  have zA : W1.heap.size ≠ L.cb := by have := size_of_heap H.out.cb; have := HZ1.out; omega
  have zA' : L.cb ≠ W1.heap.size := zA.symm
  have zB : W1.heap.size ≠ w2.heap.size := by omega
  have b0' := b0 0
  have b1' := b0 1
  have b2' := b0 2
  simp at b0' b1' b2'
  clear B0 b0
  go_wp2_with fail
  go_region_held3 (fun w' => w'.cell? ⟨W1.heap.size, 0, none⟩ = some (.int .u64 (NS now)) ∧ w'.cell? ⟨W1.heap.size, 1, none⟩ = some (.int .i64 (SEC now)) ∧ w'.cell? ⟨W1.heap.size, 2, none⟩ = some (.pointer none) ∧ w'.cell? ⟨L.cb, 3, none⟩ = some (.int .i64 c.interval)) (first | (go_keep; done) | ((try dsimp only); refine ⟨?_, ?_, ?_, ?_⟩ <;> first | (go_keep; done) | (simp [p3, World.cell?_setCell_other])))
    ((first | (go_at_call 89; refine (add_any now c.interval _ (by omega) (by omega) (by omega) (by omega)).mono ?_; rintro e w3 ⟨rfl, hb3⟩; have H3 := Lib.hid ((CBat.drew HA.out).keep (S := []) (Mod.of_below hb3) (by simp) (by simp) (by simp)); obtain ⟨hc3, hf3⟩ := H3.out.cells; obtain ⟨c3, _, hz3, _⟩ := kept hb3 (heap_drew BA.out); have p0 := c3 0; have p1 := c3 1; have p2 := c3 2; have p3 := hc3 3; have p16 := hc3 16; have p17 := hc3 17; have p18 := hc3 18; simp [CB.gen2] at p0 p1 p2 p3 p16 p17 p18; clear c3 hc3)))
  go_wp2_with fail
  go_end0
  refine ⟨rfl, ?_, ?_⟩
  · have X := H3.out.setExp HL.out (now + c.interval)
    have e : c.newGen now = { c.gen2 now with exp := now + c.interval } := by unfold CB.newGen; rw [HE.out]; rfl
    rw [e]; exact X
  · exact (((MA.out.drew.trans (Mod.of_below hb3)).setCell _ _ (by simp)).setCell _ _ (by simp)).setCell _ _ (by simp)


theorem newGen_any (L : Loc) (r : Rules) (c : CB) (now : Int) (w : World) (h : CBat w L r c) (lok : L.Ok) (ok : c.Ok) (t0 : -3000000000000000000 ≤ now) (t1 : now ≤ 3000000000000000000) :
    Calls Try.prog 72 #[.pointer (some ⟨L.cb, 0, none⟩), .agg #[.int .u64 (NS now), .int .i64 (SEC now), .pointer none]] w fun e w' => e = .returned (.tuple #[]) ∧ CBat w' L r (c.newGen now) ∧ Mod [L.cb, L.rc, L.bk] w w' := by
  have a1 := ok.st0
  have a2 := ok.st1
  have a3 := ok.tim0
  have hs : c.state = 0 ∨ c.state = 1 ∨ c.state = 2 := by omega
  rcases hs with hs | hs | hs
  · by_cases hi : c.interval = 0
    · exact newGen_noint L r c now w h lok ok.few hs hi t0 t1 ok.int0 ok.int1 (by omega) ok.tim1
    · by_cases hn : 2 ≤ c.rc.bs.length
      · exact newGen_roll L r c now w h lok ok.few hs hi hn t0 t1 ok.int0 ok.int1 (by omega) ok.tim1
      · exact newGen_fixed L r c now w h lok ok.few hs hi (by omega) t0 t1 ok.int0 ok.int1 (by omega) ok.tim1
  · exact newGen_half L r c now w h lok ok.few hs t0 t1 ok.int0 ok.int1 (by omega) ok.tim1
  · exact newGen_open L r c now w h lok ok.few hs t0 t1 ok.int0 ok.int1 (by omega) ok.tim1

end Go.Proofs.Ytcjklacfoldaoaa
