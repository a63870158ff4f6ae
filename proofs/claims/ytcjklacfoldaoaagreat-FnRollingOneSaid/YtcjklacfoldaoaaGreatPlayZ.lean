import Derived.Deep.CutBlock
import Derived.Deep.AppendLies
import Derived.Deep.LoopGhost
import Derived.Deep.DeepCutAuto
import Derived.Test.YtcjklacfoldaoaaGreatSmall
import Derived.Test.YtcjklacfoldaoaaGreatExecZ
import Derived.Test.YtcjklacfoldaoaaGreatPlayN
import Derived.Test.YtcjklacfoldaoaaGreatNewB
/- Contract of currentState and State where nothing is due: only memory is made. Conditions: the breaker, its bed and its rules lie in their blocks, the numbers are in their ranges. -/
namespace Go.Proofs.YtcjklacfoldaoaaGreat
open Go.RowKit
attribute [local go_sem ↓] Go.wp_at_zero Go.wp_at_succ

set_option maxRecDepth 100000 in
set_option maxHeartbeats 2000000 in
theorem idle_closed0 (L : Loc) (cr : Nat) (r : Rules) (c : CB) (now : Int) (chs : List (Int × Int)) (w : World) (h : Sys w L cr r c now chs) (_hlen : chs.length ≤ 1000000) (hst : c.state = 0) (hx : c.exp = T0) (hn : c.rc.bs.length < 2) :
    Calls Tryz.prog 54 #[.pointer (some ⟨L.cb, 0, none⟩), .agg #[.int .u64 (NS now), .int .i64 (SEC now), .pointer none]] w fun e w' => e = .returned (.tuple #[.int .i64 (c).state, .int .u64 (c).gen, .int .u64 (c).rc.age]) ∧ Below w.heap.size w w' := by
  have HX := Lib.hid hx
  clear hx
  have HS := Lib.hid h
  have HST := Lib.hid hst
  obtain ⟨z1, z2, z3, z4, z5, z6, z7⟩ := h.lts
  obtain ⟨hc, hf⟩ := h.cb.cells
  have g10 := hc 10
  have g11 := hc 11
  have g12 := hc 12
  have g16 := hc 16
  have g17 := hc 17
  have g18 := hc 18
  simp at g10 g11 g12 g16 g17 g18
  rw [hst] at g10
  have g7 := h.cb.rc.cells.1 7
  have g6 := h.cb.rc.cells.1 6
  simp at g6 g7
  have S1 := Lib.hid (h.alloc (Obj.cells #[Value.int IntKind.u64 (NS now), Value.int IntKind.i64 (SEC now), Value.pointer none] 100))
  have B1 := Lib.hid (heap_alloc_new w (Obj.cells #[Value.int IntKind.u64 (NS now), Value.int IntKind.i64 (SEC now), Value.pointer none] 100))
  have y1 : L.cb ≠ w.heap.size := by omega
  have y2 : L.rc ≠ w.heap.size := by omega
  have y3 := y1.symm
  have y4 := y2.symm
  clear h hst hc hf
  go_enter Tryz.func54, Tryz.ntmps54
  go_wp2_with fail
  first | (go_region_with ((go_at_call 74; refine (isZero_yes c.exp _ HX.out).mono ?_; rintro e w2 ⟨rfl, hb2⟩; have S2 := Lib.hid (S1.out.drew.below hb2); obtain ⟨cc, _⟩ := S2.out.cb.cells; have p16 := cc 16; have p17 := cc 17; have p18 := cc 18; obtain ⟨c2, _, hz2, B2⟩ := kept hb2 (heap_drew B1.out); have q0 := c2 0; have q1 := c2 1; have q2 := c2 2; simp at p16 p17 p18 q0 q1 q2; clear cc c2))) | fail
  all_goals (
    clear p16 p17 p18 q0 q1 q2
    clear g10 g12 g7
    obtain ⟨hc, hf⟩ := S2.out.cb.cells
    have g10 := hc 10
    have g12 := hc 12
    have g7 := S2.out.cb.rc.cells.1 7
    simp at g10 g12 g7
    rw [HST.out] at g10
    clear hc hf
    have hn' : ¬ (2 : Int) ≤ (c.rc.bs.length : Int) := by omega
    go_wp2_with fail
    clear g10 g12 g7
    have EF := Lib.hid (show Evo L r w cr _ _ now _ from ⟨cr, S2.out, .inl rfl, ((((Mod.refl [L.cb, L.rc, L.bk, L.bd, cr] w).alloc (Obj.cells #[Value.int IntKind.u64 (NS now), Value.int IntKind.i64 (SEC now), Value.pointer none] 100)).drew.trans (Mod.of_below hb2)))⟩)
    have BF := Lib.hid (show Below w.heap.size w _ from ((((Below.refl w.heap.size w).alloc (by first | exact Nat.le_refl _ | simp | (simp; omega)) (Obj.cells #[Value.int IntKind.u64 (NS now), Value.int IntKind.i64 (SEC now), Value.pointer none] 100)).drew.trans (hb2.mono (by first | exact Nat.le_refl _ | (simp; done) | (have := hb2.size; simp at this; omega))))))
    obtain ⟨crF, sF, kF, mF⟩ := EF.out
    obtain ⟨hcF, _⟩ := sF.cb.cells
    have k10 := hcF 10
    have k11 := hcF 11
    have k12 := hcF 12
    have r6 := sF.cb.rc.cells.1 6
    simp at k10 k11 k12 r6
    have SF := Lib.hid sF
    have KF := Lib.hid kF
    have MF := Lib.hid mF
    clear hcF EF sF kF mF
    go_wp2_with fail
    go_quiet (fail)
    go_wp2_with fail
    go_ret3
    exact ⟨rfl, BF.out.trans ⟨rfl, rfl, rfl, Nat.le_refl _, fun _ _ => rfl⟩⟩)

set_option maxRecDepth 100000 in
set_option maxHeartbeats 2000000 in
theorem idle_closedlive (L : Loc) (cr : Nat) (r : Rules) (c : CB) (now : Int) (chs : List (Int × Int)) (w : World) (h : Sys w L cr r c now chs) (_hlen : chs.length ≤ 1000000) (hst : c.state = 0) (hx : c.exp ≠ T0) (hy : now ≤ c.exp) (hn : c.rc.bs.length < 2) :
    Calls Tryz.prog 54 #[.pointer (some ⟨L.cb, 0, none⟩), .agg #[.int .u64 (NS now), .int .i64 (SEC now), .pointer none]] w fun e w' => e = .returned (.tuple #[.int .i64 (c).state, .int .u64 (c).gen, .int .u64 (c).rc.age]) ∧ Below w.heap.size w w' := by
  have HX := Lib.hid hx
  clear hx
  have HY := Lib.hid hy
  clear hy
  have HS := Lib.hid h
  have HST := Lib.hid hst
  obtain ⟨z1, z2, z3, z4, z5, z6, z7⟩ := h.lts
  obtain ⟨hc, hf⟩ := h.cb.cells
  have g10 := hc 10
  have g11 := hc 11
  have g12 := hc 12
  have g16 := hc 16
  have g17 := hc 17
  have g18 := hc 18
  simp at g10 g11 g12 g16 g17 g18
  rw [hst] at g10
  have g7 := h.cb.rc.cells.1 7
  have g6 := h.cb.rc.cells.1 6
  simp at g6 g7
  have S1 := Lib.hid (h.alloc (Obj.cells #[Value.int IntKind.u64 (NS now), Value.int IntKind.i64 (SEC now), Value.pointer none] 100))
  have B1 := Lib.hid (heap_alloc_new w (Obj.cells #[Value.int IntKind.u64 (NS now), Value.int IntKind.i64 (SEC now), Value.pointer none] 100))
  have y1 : L.cb ≠ w.heap.size := by omega
  have y2 : L.rc ≠ w.heap.size := by omega
  have y3 := y1.symm
  have y4 := y2.symm
  clear h hst hc hf
  go_enter Tryz.func54, Tryz.ntmps54
  go_wp2_with fail
  go_region_held3 (fun w' => w'.cell? ⟨L.cb, 16, none⟩ = some (.int .u64 (NS c.exp)) ∧ w'.cell? ⟨L.cb, 17, none⟩ = some (.int .i64 (SEC c.exp)) ∧ w'.cell? ⟨L.cb, 18, none⟩ = some (.pointer none) ∧ w'.cell? ⟨w.heap.size, 0, none⟩ = some (.int .u64 (NS now)) ∧ w'.cell? ⟨w.heap.size, 1, none⟩ = some (.int .i64 (SEC now)) ∧ w'.cell? ⟨w.heap.size, 2, none⟩ = some (.pointer none)) (first | (go_keep; done) | ((try dsimp only); exact ⟨p16, p17, p18, q0, q1, q2⟩))
    ((first | (go_at_call 74; refine (isZero_no c.exp _ HX.out).mono ?_; rintro e w2 ⟨rfl, hb2⟩; have S2 := Lib.hid (S1.out.drew.below hb2); obtain ⟨cc, _⟩ := S2.out.cb.cells; have p16 := cc 16; have p17 := cc 17; have p18 := cc 18; obtain ⟨c2, _, hz2, B2⟩ := kept hb2 (heap_drew B1.out); have q0 := c2 0; have q1 := c2 1; have q2 := c2 2; simp at p16 p17 p18 q0 q1 q2; clear cc c2) | (go_at_call 75; refine (before_no c.exp now _ (by have := HY.out; omega)).mono ?_; rintro e w3 ⟨rfl, hb3⟩; have S3 := Lib.hid (S2.out.below hb3); obtain ⟨cc, _⟩ := S3.out.cb.cells; have p16 := cc 16; have p17 := cc 17; have p18 := cc 18; obtain ⟨c3, _, hz3, B3⟩ := kept hb3 B2; have q0 := c3 0; have q1 := c3 1; have q2 := c3 2; simp at p16 p17 p18 q0 q1 q2; clear cc c3)))
  clear p16 p17 p18 q0 q1 q2
  clear g10 g12 g7
  obtain ⟨hc, hf⟩ := S3.out.cb.cells
  have g10 := hc 10
  have g12 := hc 12
  have g7 := S3.out.cb.rc.cells.1 7
  simp at g10 g12 g7
  rw [HST.out] at g10
  clear hc hf
  have hn' : ¬ (2 : Int) ≤ (c.rc.bs.length : Int) := by omega
  go_wp2_with fail
  clear g10 g12 g7
  have EF := Lib.hid (show Evo L r w cr _ _ now _ from ⟨cr, S3.out, .inl rfl, (((((Mod.refl [L.cb, L.rc, L.bk, L.bd, cr] w).alloc (Obj.cells #[Value.int IntKind.u64 (NS now), Value.int IntKind.i64 (SEC now), Value.pointer none] 100)).drew.trans (Mod.of_below hb2))).trans (Mod.of_below hb3))⟩)
  have BF := Lib.hid (show Below w.heap.size w _ from (((((Below.refl w.heap.size w).alloc (by first | exact Nat.le_refl _ | simp | (simp; omega)) (Obj.cells #[Value.int IntKind.u64 (NS now), Value.int IntKind.i64 (SEC now), Value.pointer none] 100)).drew.trans (hb2.mono (by first | exact Nat.le_refl _ | (simp; done) | (have := hb2.size; simp at this; omega))))).trans (hb3.mono (by first | exact Nat.le_refl _ | (simp; done) | (have := hb2.size; simp at this; omega)))))
  obtain ⟨crF, sF, kF, mF⟩ := EF.out
  obtain ⟨hcF, _⟩ := sF.cb.cells
  have k10 := hcF 10
  have k11 := hcF 11
  have k12 := hcF 12
  have r6 := sF.cb.rc.cells.1 6
  simp at k10 k11 k12 r6
  have SF := Lib.hid sF
  have KF := Lib.hid kF
  have MF := Lib.hid mF
  clear hcF EF sF kF mF
  go_wp2_with fail
  go_quiet (fail)
  go_wp2_with fail
  go_ret3
  exact ⟨rfl, BF.out.trans ⟨rfl, rfl, rfl, Nat.le_refl _, fun _ _ => rfl⟩⟩

set_option maxRecDepth 100000 in
set_option maxHeartbeats 2000000 in
theorem idle_openlive (L : Loc) (cr : Nat) (r : Rules) (c : CB) (now : Int) (chs : List (Int × Int)) (w : World) (h : Sys w L cr r c now chs) (_hlen : chs.length ≤ 1000000) (hst : c.state = 2) (hy : now ≤ c.exp) :
    Calls Tryz.prog 54 #[.pointer (some ⟨L.cb, 0, none⟩), .agg #[.int .u64 (NS now), .int .i64 (SEC now), .pointer none]] w fun e w' => e = .returned (.tuple #[.int .i64 (c).state, .int .u64 (c).gen, .int .u64 (c).rc.age]) ∧ Below w.heap.size w w' := by
  have HY := Lib.hid hy
  clear hy
  have HS := Lib.hid h
  have HST := Lib.hid hst
  obtain ⟨z1, z2, z3, z4, z5, z6, z7⟩ := h.lts
  obtain ⟨hc, hf⟩ := h.cb.cells
  have g10 := hc 10
  have g11 := hc 11
  have g12 := hc 12
  have g16 := hc 16
  have g17 := hc 17
  have g18 := hc 18
  simp at g10 g11 g12 g16 g17 g18
  rw [hst] at g10
  have g7 := h.cb.rc.cells.1 7
  have g6 := h.cb.rc.cells.1 6
  simp at g6 g7
  have S1 := Lib.hid (h.alloc (Obj.cells #[Value.int IntKind.u64 (NS now), Value.int IntKind.i64 (SEC now), Value.pointer none] 100))
  have B1 := Lib.hid (heap_alloc_new w (Obj.cells #[Value.int IntKind.u64 (NS now), Value.int IntKind.i64 (SEC now), Value.pointer none] 100))
  have y1 : L.cb ≠ w.heap.size := by omega
  have y2 : L.rc ≠ w.heap.size := by omega
  have y3 := y1.symm
  have y4 := y2.symm
  clear h hst hc hf
  go_enter Tryz.func54, Tryz.ntmps54
  go_wp2_with fail
  go_region_held3 (fun w' => w'.cell? ⟨L.cb, 16, none⟩ = some (.int .u64 (NS c.exp)) ∧ w'.cell? ⟨L.cb, 17, none⟩ = some (.int .i64 (SEC c.exp)) ∧ w'.cell? ⟨L.cb, 18, none⟩ = some (.pointer none) ∧ w'.cell? ⟨w.heap.size, 0, none⟩ = some (.int .u64 (NS now)) ∧ w'.cell? ⟨w.heap.size, 1, none⟩ = some (.int .i64 (SEC now)) ∧ w'.cell? ⟨w.heap.size, 2, none⟩ = some (.pointer none)) (first | (go_keep; done) | ((try dsimp only); exact ⟨p16, p17, p18, q0, q1, q2⟩))
    ((first | (go_at_call 75; refine (before_no c.exp now _ (by have := HY.out; omega)).mono ?_; rintro e w2 ⟨rfl, hb2⟩; have S2 := Lib.hid (S1.out.drew.below hb2); obtain ⟨cc, _⟩ := S2.out.cb.cells; have p16 := cc 16; have p17 := cc 17; have p18 := cc 18; obtain ⟨c2, _, hz2, B2⟩ := kept hb2 (heap_drew B1.out); have q0 := c2 0; have q1 := c2 1; have q2 := c2 2; simp at p16 p17 p18 q0 q1 q2; clear cc c2)))
  clear p16 p17 p18 q0 q1 q2
  clear g10 g11 g12 g16 g17 g18 g6 g7
  have EF := Lib.hid (show Evo L r w cr _ _ now _ from ⟨cr, S2.out, .inl rfl, ((((Mod.refl [L.cb, L.rc, L.bk, L.bd, cr] w).alloc (Obj.cells #[Value.int IntKind.u64 (NS now), Value.int IntKind.i64 (SEC now), Value.pointer none] 100)).drew.trans (Mod.of_below hb2)))⟩)
  have BF := Lib.hid (show Below w.heap.size w _ from ((((Below.refl w.heap.size w).alloc (by first | exact Nat.le_refl _ | simp | (simp; omega)) (Obj.cells #[Value.int IntKind.u64 (NS now), Value.int IntKind.i64 (SEC now), Value.pointer none] 100)).drew.trans (hb2.mono (by first | exact Nat.le_refl _ | (simp; done) | (have := hb2.size; simp at this; omega))))))
  obtain ⟨crF, sF, kF, mF⟩ := EF.out
  obtain ⟨hcF, _⟩ := sF.cb.cells
  have k10 := hcF 10
  have k11 := hcF 11
  have k12 := hcF 12
  have r6 := sF.cb.rc.cells.1 6
  simp at k10 k11 k12 r6
  have SF := Lib.hid sF
  have KF := Lib.hid kF
  have MF := Lib.hid mF
  clear hcF EF sF kF mF
  go_wp2_with fail
  go_quiet (fail)
  go_wp2_with fail
  go_ret3
  exact ⟨rfl, BF.out.trans ⟨rfl, rfl, rfl, Nat.le_refl _, fun _ _ => rfl⟩⟩

set_option maxRecDepth 100000 in
set_option maxHeartbeats 2000000 in
theorem idle_half (L : Loc) (cr : Nat) (r : Rules) (c : CB) (now : Int) (chs : List (Int × Int)) (w : World) (h : Sys w L cr r c now chs) (_hlen : chs.length ≤ 1000000) (hst : c.state = 1) :
    Calls Tryz.prog 54 #[.pointer (some ⟨L.cb, 0, none⟩), .agg #[.int .u64 (NS now), .int .i64 (SEC now), .pointer none]] w fun e w' => e = .returned (.tuple #[.int .i64 (c).state, .int .u64 (c).gen, .int .u64 (c).rc.age]) ∧ Below w.heap.size w w' := by
  have HS := Lib.hid h
  have HST := Lib.hid hst
  obtain ⟨z1, z2, z3, z4, z5, z6, z7⟩ := h.lts
  obtain ⟨hc, hf⟩ := h.cb.cells
  have g10 := hc 10
  have g11 := hc 11
  have g12 := hc 12
  have g16 := hc 16
  have g17 := hc 17
  have g18 := hc 18
  simp at g10 g11 g12 g16 g17 g18
  rw [hst] at g10
  have g7 := h.cb.rc.cells.1 7
  have g6 := h.cb.rc.cells.1 6
  simp at g6 g7
  have S1 := Lib.hid (h.alloc (Obj.cells #[Value.int IntKind.u64 (NS now), Value.int IntKind.i64 (SEC now), Value.pointer none] 100))
  have B1 := Lib.hid (heap_alloc_new w (Obj.cells #[Value.int IntKind.u64 (NS now), Value.int IntKind.i64 (SEC now), Value.pointer none] 100))
  have y1 : L.cb ≠ w.heap.size := by omega
  have y2 : L.rc ≠ w.heap.size := by omega
  have y3 := y1.symm
  have y4 := y2.symm
  clear h hst hc hf
  go_enter Tryz.func54, Tryz.ntmps54
  go_wp2_with fail
  clear g10 g11 g12 g16 g17 g18 g6 g7
  have EF := Lib.hid (show Evo L r w cr _ _ now _ from ⟨cr, S1.out, .inl rfl, (Mod.refl [L.cb, L.rc, L.bk, L.bd, cr] w).alloc _⟩)
  have BF := Lib.hid (show Below w.heap.size w _ from (Below.refl w.heap.size w).alloc (by first | exact Nat.le_refl _ | simp | (simp; omega)) (Obj.cells #[Value.int IntKind.u64 (NS now), Value.int IntKind.i64 (SEC now), Value.pointer none] 100))
  obtain ⟨crF, sF, kF, mF⟩ := EF.out
  obtain ⟨hcF, _⟩ := sF.cb.cells
  have k10 := hcF 10
  have k11 := hcF 11
  have k12 := hcF 12
  have r6 := sF.cb.rc.cells.1 6
  simp at k10 k11 k12 r6
  have SF := Lib.hid sF
  have KF := Lib.hid kF
  have MF := Lib.hid mF
  clear hcF EF sF kF mF
  go_wp2_with fail
  go_quiet (fail)
  go_wp2_with fail
  go_ret3
  exact ⟨rfl, BF.out.trans ⟨rfl, rfl, rfl, Nat.le_refl _, fun _ _ => rfl⟩⟩


/-- Nothing is due. -/
def CB.Idle (c : CB) (now : Int) : Prop := (c.state = 0 ∧ (c.exp = T0 ∨ now ≤ c.exp) ∧ c.rc.bs.length < 2) ∨ c.state = 1 ∨ (c.state = 2 ∧ now ≤ c.exp)
theorem idle_any (L : Loc) (cr : Nat) (r : Rules) (c : CB) (now : Int) (chs : List (Int × Int)) (w : World) (h : Sys w L cr r c now chs) (hlen : chs.length ≤ 1000000) (hi : c.Idle now) :
    Calls Tryz.prog 54 #[.pointer (some ⟨L.cb, 0, none⟩), .agg #[.int .u64 (NS now), .int .i64 (SEC now), .pointer none]] w fun e w' => e = .returned (.tuple #[.int .i64 (c).state, .int .u64 (c).gen, .int .u64 (c).rc.age]) ∧ Below w.heap.size w w' := by
  rcases hi with ⟨hs, hx, hn⟩ | hs | ⟨hs, hx⟩
  · by_cases hT : c.exp = T0
    · exact idle_closed0 L cr r c now chs w h hlen hs hT hn
    · exact idle_closedlive L cr r c now chs w h hlen hs hT (by omega) hn
  · exact idle_half L cr r c now chs w h hlen hs
  · exact idle_openlive L cr r c now chs w h hlen hs (by omega)

set_option maxHeartbeats 1000000 in
theorem cbState_idle (L : Loc) (cr : Nat) (r : Rules) (c : CB) (now : Int) (chs : List (Int × Int)) (w : World) (h : Sys w L cr r c now chs) (hlen : chs.length ≤ 1000000) (hi : c.Idle now) :
    Calls Tryz.prog 27 #[.pointer (some ⟨L.cb, 0, none⟩)] w fun e w' => e = .returned (.int .i64 c.state) ∧ Below w.heap.size w w' := by
  have HS := Lib.hid h
  have HI := Lib.hid hi
  obtain ⟨hc, hf⟩ := h.cb.cells
  have g0 := hc 0
  simp [nowV] at g0
  clear h hi hc hf
  go_enter Tryz.func27, Tryz.ntmps27
  go_wp2_with fail
  refine (now_any L cr now chs _ HS.out.bed HS.out.now0 HS.out.now1).mono ?_
  rintro e w1 ⟨rfl, hb1⟩
  have S1 := Lib.hid (HS.out.below hb1)
  have B1 := Lib.hid hb1
  clear hb1 g0
  go_wp2_with fail
  have S2 := Lib.hid (S1.out.alloc (Obj.cells #[Value.int IntKind.u64 (NS now), Value.int IntKind.i64 (SEC now), Value.pointer none] 100))
  have B2 := Lib.hid (B1.out.alloc B1.out.size (Obj.cells #[Value.int IntKind.u64 (NS now), Value.int IntKind.i64 (SEC now), Value.pointer none] 100))
  refine (idle_any L cr r c now chs _ S2.out hlen HI.out).mono ?_
  rintro e w3 ⟨rfl, hb3⟩
  have B3 := Lib.hid (B2.out.trans (hb3.mono B2.out.size))
  clear hb3
  go_wp2_with fail
  go_ret
  exact ⟨rfl, B3.out⟩

end Go.Proofs.YtcjklacfoldaoaaGreat

/- PlayCalls as plain data, and its contract. Conditions: the calls are within the bounds, the window does not roll, no request panics unless the law of a panic is at hand. -/
namespace Go.Proofs.YtcjklacfoldaoaaGreat
open Go.RowKit
attribute [local go_sem ↓] Go.wp_at_zero Go.wp_at_succ

/-- A row of calls can be read. -/
def CallsAt (w : World) (v : Value) (l : List Call) : Prop :=
  ∃ p cap, v = .slice p l.length cap ∧ ∀ (i : Nat) (x : Call), l[i]? = some x → ∃ b o : Nat, p = some ⟨b, o, none⟩ ∧ b < w.heap.size ∧ ∀ (j : Nat) (u : Value), (callRow x)[j]? = some u → w.cell? ⟨b, o + i * 5 + j, none⟩ = some u
def toldFlat (l : List Told) : List Value := l.flatMap toldRow
theorem toldFlat_snoc (l : List Told) (x : Told) : toldFlat (l ++ [x]) = toldFlat l ++ toldRow x := by simp [toldFlat]

structure PC where
  c : CB
  now : Int
  chs : List (Int × Int)
  out : List Told
namespace PC
def start (r : Rules) (now : Int) : PC := ⟨(freshCB r).newGen now, now, [], []⟩
def step (r : Rules) (p : PC) (k : Call) : PC :=
  ⟨execC r p.c (p.now + k.wait) k, execNow p.c (p.now + k.wait) k, p.chs ++ execChs r p.c (p.now + k.wait) k, p.out ++ [{ execTold p.c (p.now + k.wait) k with cnt := (execC r p.c (p.now + k.wait) k).rc.tot }]⟩
def run (r : Rules) (p : PC) (l : List Call) : PC := l.foldl (step r) p
structure Can (p : PC) (k : Call) : Prop where
  wait0 : 0 ≤ k.wait
  long0 : 0 ≤ k.long
  now0 : -3000000000000000000 ≤ p.now
  now1 : p.now + k.wait + k.long ≤ 3000000000000000000
  err0 : 0 ≤ k.err
  err1 : k.err ≤ 6
def Fine (r : Rules) : PC → List Call → Prop
  | _, [] => True
  | p, k :: l => p.Can k ∧ Fine r (p.step r k) l
theorem run_drop (r : Rules) (p : PC) {l : List Call} {i : Nat} {a : Call} (h : l[i]? = some a) : run r p (l.drop i) = run r (p.step r a) (l.drop (i + 1)) := by
  have hi : i < l.length := by
    rcases Nat.lt_or_ge i l.length with h' | h'
    · exact h'
    · rw [List.getElem?_eq_none h'] at h; cases h
  rw [List.drop_eq_getElem_cons hi]
  rw [List.getElem?_eq_getElem hi] at h
  simp at h
  rw [h]; rfl
theorem fine_drop (r : Rules) (p : PC) {l : List Call} {i : Nat} {a : Call} (h : l[i]? = some a) (hf : Fine r p (l.drop i)) : p.Can a ∧ Fine r (p.step r a) (l.drop (i + 1)) := by
  have hi : i < l.length := by
    rcases Nat.lt_or_ge i l.length with h' | h'
    · exact h'
    · rw [List.getElem?_eq_none h'] at h; cases h
  rw [List.drop_eq_getElem_cons hi] at hf
  rw [List.getElem?_eq_getElem hi] at h
  simp at h
  rw [h] at hf
  exact hf
end PC

/-- The law of a request that panics. -/
def PanSaid : Prop := ∀ (L : Loc) (cr : Nat) (r : Rules) (c : CB) (now : Int) (chs : List (Int × Int)) (k : Call) (w : World), Sys w L cr r c now chs → chs.length ≤ 999990 → c.One → (c.look now).beforeCode = 0 →
    k.pan = true → 0 ≤ k.long → -3000000000000000000 ≤ now → now + k.long ≤ 3000000000000000000 →
    Calls Tryz.prog 24 #[.pointer (some ⟨L.cb, 0, none⟩), .pointer (some ⟨L.bd, 0, none⟩), .agg (callArr k)] w fun e w' =>
      e = .returned (.agg (toldArr ⟨true, 0, 0, true, Cnt.zero⟩)) ∧ Evo L r w cr w' ((c.look now).before1.after r (c.look now).gen (c.look now).rc.age 7 (now + k.long)) (now + k.long) (chs ++ c.lookTold now ++ (c.look now).before1.afterTold r (c.look now).gen (c.look now).rc.age 7 (now + k.long))

theorem CB.One.gen {c : CB} (h : c.One) (now : Int) : (c.look now).rc.age = 0 := (h.look now).2
/-- The thin package's execute, as one. -/
theorem execute_any (L : Loc) (cr : Nat) (r : Rules) (c : CB) (now : Int) (chs : List (Int × Int)) (k : Call) (w : World) (h : Sys w L cr r c now chs) (hlen : chs.length ≤ 999990) (ho : c.One) (hp : k.pan = false ∨ PanSaid)
    (l0 : 0 ≤ k.long) (n0 : -3000000000000000000 ≤ now) (n1 : now + k.long ≤ 3000000000000000000) (e0 : 0 ≤ k.err) (e1 : k.err ≤ 6) :
    Calls Tryz.prog 24 #[.pointer (some ⟨L.cb, 0, none⟩), .pointer (some ⟨L.bd, 0, none⟩), .agg (callArr k)] w fun e w' =>
      e = .returned (.agg (toldArr (execTold c now k))) ∧ Evo L r w cr w' (execC r c now k) (execNow c now k) (chs ++ execChs r c now k) := by
  unfold execTold execC execNow execChs execErr
  by_cases hc : (c.look now).beforeCode = 0
  · simp only [if_pos hc]
    rw [← List.append_assoc]
    cases hk : k.pan with
    | false =>
      simp only [Bool.false_eq_true, if_false]
      exact execute_ok L cr r c now chs k w h hlen (ho.win now) hc hk l0 n0 n1 e0 e1 ((ho.look now).before1.win _) (fun _ => by rw [ho.gen now]; exact (ho.look now).before1.hit _)
    | true =>
      simp only [if_true]
      rcases hp with hp | hp
      · rw [hk] at hp; cases hp
      · exact hp L cr r c now chs k w h hlen ho hc hk l0 n0 n1
  · simp only [if_neg hc]
    rw [List.append_nil]
    have := beforeCode_or _ hc
    exact execute_no L cr r c now chs k w h hlen (ho.win now) this

theorem CB.One.exec {c : CB} (h : c.One) (r : Rules) (now : Int) (k : Call) : (execC r c now k).One := by
  unfold execC
  split
  · exact (h.look now).before1.after r _ _ _ _
  · exact (h.look now).before1
theorem execChs_len (r : Rules) (c : CB) (now : Int) (k : Call) : (execChs r c now k).length ≤ 3 := by
  have h1 := CB.lookTold_len c now
  have h2 := CB.afterTold_len (c.look now).before1 r (c.look now).gen (c.look now).rc.age (execErr k) (now + k.long)
  unfold execChs
  rw [List.length_append]
  split
  · omega
  · simp; omega

end Go.Proofs.YtcjklacfoldaoaaGreat

/- Contract of PlayCalls. Conditions: the calls are within the bounds, the window does not roll, no request panics unless the law of a panic is at hand, nothing is due behind the last call. -/
namespace Go.Proofs.YtcjklacfoldaoaaGreat
open Go.RowKit
attribute [local go_sem ↓] Go.wp_at_zero Go.wp_at_succ

theorem infoTold : (Tryz.prog.info? 40).map (fun i => (i.zero, i.size, i.bytes)) = some (some (.agg #[.bool false, .int .i64 0, .int .i64 0, .bool false, .int .u32 0, .int .u32 0, .int .u32 0, .int .u32 0, .int .u32 0, .int .u32 0]), 10, 56) := by kernel_rfl

/-- Where everything lies ahead of a round. -/
structure CSt (w0 : World) (L : Loc) (r : Rules) (wx : World) (p : PC) (cr : Nat) (ov : Value) : Prop where
  sys : Sys wx L cr r p.c p.now p.chs
  ot : wx.ownsRow w0.heap.size 40 10 ov p.out.length (toldFlat p.out)
  ots : ∀ g, ov.ownBlock = some g → Sep L cr g
  old : ∀ i ∈ [L.cb, L.rc, L.bk, L.bd, cr], w0.heap.size ≤ i
  bel : Below w0.heap.size w0 wx
section
variable {w0 wx wy : World} {L : Loc} {cr : Nat} {r : Rules} {p : PC} {ov : Value}
theorem CSt.go (h : CSt w0 L r wx p cr ov) {c' : CB} {now' : Int} {chs' : List (Int × Int)} {cr' : Nat} (s : Sys wy L cr' r c' now' chs') (k : cr' = cr ∨ wx.heap.size ≤ cr') (m : Mod [L.cb, L.rc, L.bk, L.bd, cr] wx wy) : CSt w0 L r wy { p with c := c', now := now', chs := chs' } cr' ov := by
  refine ⟨s, owns_keep h.ot fun g hg => m.block g (h.ot.lt g hg).2 (h.ots g hg), fun g hg => (h.ots g hg).next (h.ot.lt g hg).2 k, ?_, h.bel.trans (m.below_of h.bel.size h.old)⟩
  intro i hi
  have h1 := h.old
  simp at hi h1 ⊢
  rcases hi with e | e | e | e | e
  · omega
  · omega
  · omega
  · omega
  · have := h.bel.size
    rcases k with k | k <;> omega
theorem CSt.below (h : CSt w0 L r wx p cr ov) (b : Below wx.heap.size wx wy) : CSt w0 L r wy p cr ov := by
  have m : Mod [] wx wy := Mod.of_below b
  exact ⟨h.sys.below b, owns_keep h.ot fun g hg => m.block g (h.ot.lt g hg).2 (by simp), h.ots, h.old, h.bel.trans (b.mono h.bel.size)⟩
theorem CSt.alloc (h : CSt w0 L r wx p cr ov) (o : Obj) : CSt w0 L r (wx.alloc o) p cr ov := h.below ((Below.refl _ _).alloc (Nat.le_refl _) _)
theorem CSt.drew (h : CSt w0 L r wx p cr ov) : CSt w0 L r wx.drew p cr ov := h.below (Below.refl _ _).drew
/-- The told of a round has been written: block g. -/
theorem CSt.set (h : CSt w0 L r wx p cr ov) {g : Nat} {cs : Array Value} {fr : Nat × Nat} (hg : wx.heap[g]? = some (.cells cs 40 fr)) (hs : Sep L cr g) (ho : ov.ownBlock ≠ some g) (h0 : w0.heap.size ≤ g) (m : Mod [g] wx wy) : CSt w0 L r wy p cr ov := by
  refine ⟨h.sys.mod1 hg hs (by decide) (by decide) m, owns_keep h.ot fun k hk => m.block k (h.ot.lt k hk).2 (by simp; rintro rfl; exact ho hk), h.ots, h.old, h.bel.trans (m.below_of h.bel.size (by simpa using h0))⟩
theorem CSt.pushOut (h : CSt w0 L r wx p cr ov) {x : Told} {g cap : Nat} (hown : wy.ownsRow w0.heap.size 40 10 (.slice (some ⟨g, 0, none⟩) (p.out.length + 1) cap) (p.out.length + 1) (toldFlat p.out ++ toldRow x)) (hgrow : wx.grownBy wy ov.ownBlock) (hat : ov.ownBlock = some g ∨ g = wx.heap.size) :
    CSt w0 L r wy { p with out := p.out ++ [x] } cr (.slice (some ⟨g, 0, none⟩) (p.out.length + 1) cap) := by
  have key : Sys wy L cr r p.c p.now p.chs ∧ Below w0.heap.size w0 wy := by
    cases hrow : ov.ownBlock with
    | none =>
      rw [hrow] at hgrow
      have b : Below wx.heap.size wx wy := ⟨hgrow.os, hgrow.tape, hgrow.output, hgrow.size, fun k hk => hgrow.block k hk (by simp)⟩
      exact ⟨(h.below b).sys, (h.below b).bel⟩
    | some k =>
      rw [hrow] at hgrow
      obtain ⟨h0, cs, fr, hk⟩ := own_block h.ot hrow
      have m : Mod [k] wx wy := Mod.of_grown hgrow (by intro j hj; simp at hj; simp [hj])
      exact ⟨h.sys.mod1 hk (h.ots k hrow) (by decide) (by decide) m, h.bel.trans (m.below_of h.bel.size (by simpa using h0))⟩
  refine ⟨key.1, by rw [toldFlat_snoc, List.length_append]; exact hown, ?_, h.old, key.2⟩
  intro k hk
  simp [Value.ownBlock] at hk
  subst hk
  rcases hat with e | e
  · exact h.ots _ e
  · rw [e]; exact h.sys.sep (Nat.le_refl _)
end

set_option maxRecDepth 100000 in
set_option maxHeartbeats 4000000 in
theorem playCalls_any (r : Rules) (start : Int) (va : Value) (l : List Call) (w : World) (hb : r.bucket ≤ 0) (rok : r.Ok) (h1 : r.interval ≤ 1000000000000000000) (h2 : r.timeout ≤ 1000000000000000000) (t0 : -3000000000000000000 ≤ start) (t1 : start ≤ 3000000000000000000)
    (ha : CallsAt w va l) (hl : l.length ≤ 100000) (hf : PC.Fine r (PC.start r start) l) (hp : (∀ k ∈ l, k.pan = false) ∨ PanSaid) (hid : (PC.run r (PC.start r start) l).c.Idle (PC.run r (PC.start r start) l).now) :
    Calls Tryz.prog 11 #[.agg #[.string r.name, .int .u32 r.most, .int .i64 r.interval, .int .i64 r.bucket, .int .i64 r.timeout, .int .i64 r.trip, .int .u32 r.bound, .bool r.hasGood, .int .u8 r.good, .bool r.hasOut, .int .u8 r.out], .int .i64 start, va] w fun e w' =>
      ∃ vo vc, e = .returned (.tuple #[vo, vc, .int .i64 (PC.run r (PC.start r start) l).c.state]) ∧ w'.ownsRow w.heap.size 40 10 vo (PC.run r (PC.start r start) l).out.length (toldFlat (PC.run r (PC.start r start) l).out) ∧
        w'.ownsRow w.heap.size 85 2 vc (PC.run r (PC.start r start) l).chs.length (chFlat (PC.run r (PC.start r start) l).chs) ∧ Below w.heap.size w w' := by
  obtain ⟨pa, cap, rfl, hacts⟩ := ha
  have HA := Lib.hid hacts
  have HF := Lib.hid hf
  have HPP := Lib.hid hp
  have HID := Lib.hid hid
  clear hacts hf hp hid
  go_enter Tryz.func11, Tryz.ntmps11
  go_wp2_with fail
  have hz2 : ((w.alloc (Obj.cells (rulesArr r) 24)).alloc (Obj.cells #[Value.int IntKind.i64 start, Value.slice none 0 0] 59)).heap.size = w.heap.size + 2 := by simp
  have hbd2 : ((w.alloc (Obj.cells (rulesArr r) 24)).alloc (Obj.cells #[Value.int IntKind.i64 start, Value.slice none 0 0] 59)).heap[w.heap.size + 1]? = some (Obj.cells #[Value.int IntKind.i64 start, Value.slice none 0 0] 59 (0, 0)) := heap_alloc_at (by simp)
  refine (settings_any (w.heap.size + 1) r ((w.alloc (Obj.cells (rulesArr r) 24)).alloc (Obj.cells #[Value.int IntKind.i64 start, Value.slice none 0 0] 59))).mono ?_
  rintro e w1 ⟨bp, rs, rb, rfl, hp, hrs, hrb, ebp, ers, qrb, hB⟩
  rw [hz2] at ebp ers qrb hB
  have hbd1 := (hB.block (w.heap.size + 1) (by omega)).trans hbd2
  have hB0 : Below w.heap.size w w1 := (((Below.refl _ _).alloc (Nat.le_refl _) _).alloc (by simp) _).trans (hB.mono (by omega))
  have hz1 := hB.size
  rw [hz2] at hz1
  have hbed : BedAt w1 (newL w1.heap.size (w.heap.size + 1) bp rb rs) w.heap.size start [] := ⟨hp, _, hbd1, World.ownsRow_nil _ _ _ _, .inl rfl⟩
  have hnew := newCb_one (w.heap.size + 1) bp rb rs w.heap.size start [] r w1 hb hbed hrb hrs (by omega) (by omega) (by omega) (by omega) (by omega) (by omega) (by omega) (by omega) rok h1 h2 t0 t1
  have HN := Lib.hid hnew
  have HB0 := Lib.hid hB0
  have zz1 : w.heap.size + 2 ≤ w1.heap.size := hz1
  clear hp hrs hrb hB hbd1 hB0 hz1 hbed hnew hbd2 hz2 ebp ers qrb
  go_wp2_with fail
  refine HN.out.mono ?_
  rintro e w2 ⟨rfl, hS, hB2⟩
  obtain ⟨L, hL⟩ : ∃ L, L = newL w1.heap.size (w.heap.size + 1) bp rb rs := ⟨_, rfl⟩
  rw [← hL] at hS
  have hLbd : w.heap.size + 1 = L.bd := by rw [hL]
  have hLcb : w1.heap.size + 1 = L.cb := by rw [hL]
  have hold : ∀ i ∈ [L.cb, L.rc, L.bk, L.bd, w.heap.size], w.heap.size ≤ i := by
    rw [hL]; simp; omega
  have S2 := Lib.hid (show CSt w L r w2 (PC.start r start) w.heap.size (.slice none 0 0) from
    ⟨hS, World.ownsRow_nil _ _ _ _, by simp [Value.ownBlock], hold, HB0.out.trans (hB2.mono (by omega))⟩)
  rw [hLbd, hLcb]
  clear hS hB2 hL hold HN HB0 hLbd hLcb
  go_wp2_with fail
  go_loopg [11, 24] l.length (fun g s11 s24 wx => ∃ (i : Nat) (p : PC) (cr : Nat), g = l.length - i ∧ i ≤ l.length ∧ s24 = .int .i64 (i : Int) ∧ Hid (CSt w L r wx p cr s11 ∧ p.c.One ∧ PC.Fine r p (l.drop i) ∧ PC.run r p (l.drop i) = PC.run r (PC.start r start) l ∧ p.chs.length ≤ 3 * i ∧ p.out.length = i))
  case atStart =>
    exact ⟨0, PC.start r start, w.heap.size, rfl, Nat.zero_le _, rfl, Lib.hid ⟨S2.out, ⟨by simp [PC.start, CB.newGen, RC.clear, freshCB], by simp [PC.start, CB.newGen, RC.clear]⟩, HF.out, rfl, by simp [PC.start], by simp [PC.start]⟩⟩
  case round =>
    obtain ⟨i, p, cr, rfl, hi, rfl, hh⟩ := hrel
    by_cases hin : i < l.length
    · have hiz : (i : Int) < (l.length : Int) := by omega
      obtain ⟨a, hla⟩ : ∃ a, l[i]? = some a := ⟨_, List.getElem?_eq_getElem hin⟩
      obtain ⟨ab, ao, rfl, hblk, hcell⟩ := HA.out i a hla
      have hbc := fun j u hj => (hh.out.1.bel.cell (p := ⟨ab, ao + i * 5 + j, none⟩) hblk).trans (hcell j u hj)
      have k0 : wr.cell? ⟨ab, ao + i * 5, none⟩ = some (.int .i64 a.wait) := hbc 0 _ rfl
      have k1 := hbc 1 _ rfl
      have k2 := hbc 2 _ rfl
      have k3 := hbc 3 _ rfl
      have k4 := hbc 4 _ rfl
      clear hbc hcell
      have LA := Lib.hid hla
      have PAN := Lib.hid (show a.pan = false ∨ PanSaid from HPP.out.imp (fun h => h a (List.mem_of_getElem? hla)) id)
      clear hla
      obtain ⟨hS, hO, hFn, hR, b1, b3⟩ := hh.out
      obtain ⟨can, hFn'⟩ := PC.fine_drop r p LA.out hFn
      have HO := Lib.hid hO
      have HFN := Lib.hid hFn'
      have HR := Lib.hid hR
      have B3 := Lib.hid b3
      have CAN := Lib.hid can
      have n0 := can.now0
      have n1 := can.now1
      have n2 := can.wait0
      have n3 := can.long0
      have S1 := Lib.hid (hS.alloc (Obj.cells (callArr a) 36))
      have A1 := Lib.hid (heap_alloc_new wr (Obj.cells (callArr a) 36))
      have P1 := Lib.hid (hS.sys.sep (Nat.le_refl _))
      unfold callArr at S1 A1
      go_upto_region 7 with fail
      obtain ⟨ba, hba⟩ : ∃ k, k = wr.heap.size := ⟨_, rfl⟩
      rw [← hba] at A1 P1
      have zlt : ba < (wr.alloc (Obj.cells #[Value.int IntKind.i64 a.wait, Value.int IntKind.i64 a.long, Value.int IntKind.i64 a.val, Value.int IntKind.i64 a.err, Value.bool a.pan] 36)).heap.size := by rw [hba]; simp
      rw [← hba]
      clear hba hO hFn hFn' hR b3 can hS hh k0 k1 k2 k3 k4 hblk
      generalize (wr.alloc (Obj.cells #[Value.int IntKind.i64 a.wait, Value.int IntKind.i64 a.long, Value.int IntKind.i64 a.val, Value.int IntKind.i64 a.err, Value.bool a.pan] 36)) = W1 at *
      obtain ⟨bv, hbv, _, _⟩ := S1.out.sys.bed.bd
      have d0 := blk_cell hbv 0
      have d1 := blk_free hbv 0
      simp at d0
      have a0 := blk_cell A1.out
      have y0 := size_of_heap hbv
      clear hbv
      go_region
      obtain ⟨cr2, s2, k2, m2⟩ := Evo.tick S1.out.sys (now' := p.now + a.wait) (by omega) (by omega)
      have S2 := Lib.hid ((S1.out.go s2 k2 m2).drew)
      have A2 := Lib.hid (heap_drew (m2.heap A1.out P1.out))
      clear s2 k2 m2 d0 d1 a0 y0 zlt S1 A1 P1
      generalize (W1.setCell ⟨L.bd, 0, none⟩ (Value.int IntKind.i64 (p.now + a.wait))).drew = W2 at *
      have a0 := blk_cell A2.out
      have zlt := size_of_heap A2.out
      go_wp2_with fail
      refine (execute_any L cr2 r p.c (p.now + a.wait) p.chs a W2 S2.out.sys (by omega) HO.out PAN.out n3 (by omega) (by omega) CAN.out.err0 CAN.out.err1).mono ?_
      rintro e w4 ⟨rfl, cr4, s4, k4, m4⟩
      have S4 := Lib.hid ((S2.out.go s4 k4 m4).alloc (Obj.cells (toldArr (execTold p.c (p.now + a.wait) a)) 40))
      have X4 := Lib.hid (heap_alloc_new w4 (Obj.cells (toldArr (execTold p.c (p.now + a.wait) a)) 40))
      have Q4 := Lib.hid (s4.sep (Nat.le_refl _))
      have V4 := Lib.hid ((S2.out.go s4 k4 m4).bel.size)
      have U4 := Lib.hid (show u11.ownBlock ≠ some w4.heap.size from fun h => absurd ((S2.out.go s4 k4 m4).ot.lt _ h).2 (Nat.lt_irrefl _))
      clear s4 k4 m4 a0 zlt A2 S2
      unfold toldArr at S4 X4 ⊢
      go_upto_region 9 with fail
      obtain ⟨xb, hxb⟩ : ∃ k, k = w4.heap.size := ⟨_, rfl⟩
      rw [← hxb] at X4 Q4 V4 U4
      rw [← hxb]
      clear hxb
      obtain ⟨t, ht⟩ : ∃ t, t = execTold p.c (p.now + a.wait) a := ⟨_, rfl⟩
      rw [← ht] at X4 S4 ⊢
      have TT := Lib.hid ht
      clear ht
      generalize (w4.alloc (Obj.cells #[Value.bool t.ran, Value.int IntKind.i64 t.val, Value.int IntKind.i64 t.err, Value.bool t.pan, Value.int IntKind.u32 t.cnt.r, Value.int IntKind.u32 t.cnt.s, Value.int IntKind.u32 t.cnt.f, Value.int IntKind.u32 t.cnt.x, Value.int IntKind.u32 t.cnt.g, Value.int IntKind.u32 t.cnt.h] 40)) = W5 at *
      go_wp2_with fail
      refine (cbCounts_any L r (execC r p.c (p.now + a.wait) a) W5 S4.out.sys.cb).mono ?_
      rintro e w6 ⟨rfl, hb6⟩
      have S6 := Lib.hid (S4.out.below hb6)
      obtain ⟨_, _, _, HX6⟩ := kept hb6 X4.out
      have X6 := Lib.hid HX6
      clear hb6 HX6 S4 X4
      go_wp2_with fail
      refine (counts_any _ _).mono ?_
      rintro e w7 ⟨rfl, hb7⟩
      have S7 := Lib.hid (S6.out.below hb7)
      obtain ⟨x7, f7, zx7, HX7⟩ := kept hb7 X6.out
      have X7 := Lib.hid HX7
      clear hb7 HX7 S6 X6
      go_upto_region 10 with fail
      have m8 : Mod [xb] w7 ((((((w7.setCell ⟨xb, 4, none⟩ (Value.int IntKind.u32 (execC r p.c (p.now + a.wait) a).rc.tot.r)).setCell ⟨xb, 5, none⟩ (Value.int IntKind.u32 (execC r p.c (p.now + a.wait) a).rc.tot.s)).setCell ⟨xb, 6, none⟩ (Value.int IntKind.u32 (execC r p.c (p.now + a.wait) a).rc.tot.f)).setCell ⟨xb, 7, none⟩ (Value.int IntKind.u32 (execC r p.c (p.now + a.wait) a).rc.tot.x)).setCell ⟨xb, 8, none⟩ (Value.int IntKind.u32 (execC r p.c (p.now + a.wait) a).rc.tot.g)).setCell ⟨xb, 9, none⟩ (Value.int IntKind.u32 (execC r p.c (p.now + a.wait) a).rc.tot.h)) := ((((((Mod.refl [xb] w7).setCell _ _ (by simp)).setCell _ _ (by simp)).setCell _ _ (by simp)).setCell _ _ (by simp)).setCell _ _ (by simp)).setCell _ _ (by simp)
      have S8 := Lib.hid (S7.out.set X7.out Q4.out U4.out V4.out m8)
      have HX8 : ((((((w7.setCell ⟨xb, 4, none⟩ (Value.int IntKind.u32 (execC r p.c (p.now + a.wait) a).rc.tot.r)).setCell ⟨xb, 5, none⟩ (Value.int IntKind.u32 (execC r p.c (p.now + a.wait) a).rc.tot.s)).setCell ⟨xb, 6, none⟩ (Value.int IntKind.u32 (execC r p.c (p.now + a.wait) a).rc.tot.f)).setCell ⟨xb, 7, none⟩ (Value.int IntKind.u32 (execC r p.c (p.now + a.wait) a).rc.tot.x)).setCell ⟨xb, 8, none⟩ (Value.int IntKind.u32 (execC r p.c (p.now + a.wait) a).rc.tot.g)).setCell ⟨xb, 9, none⟩ (Value.int IntKind.u32 (execC r p.c (p.now + a.wait) a).rc.tot.h)).heap[xb]? = some (Obj.cells #[Value.bool t.ran, Value.int IntKind.i64 t.val, Value.int IntKind.i64 t.err, Value.bool t.pan, Value.int IntKind.u32 (execC r p.c (p.now + a.wait) a).rc.tot.r, Value.int IntKind.u32 (execC r p.c (p.now + a.wait) a).rc.tot.s, Value.int IntKind.u32 (execC r p.c (p.now + a.wait) a).rc.tot.f, Value.int IntKind.u32 (execC r p.c (p.now + a.wait) a).rc.tot.x, Value.int IntKind.u32 (execC r p.c (p.now + a.wait) a).rc.tot.g, Value.int IntKind.u32 (execC r p.c (p.now + a.wait) a).rc.tot.h] 40 (0, 0)) := (heap_set_same (heap_set_same (heap_set_same (heap_set_same (heap_set_same (heap_set_same X7.out)))))).trans (by simp)
      have x9 := blk_cell HX8
      have zx9 := size_of_heap HX8
      clear m8 HX8 S7 X7 x7 f7 zx7
      generalize ((((((w7.setCell ⟨xb, 4, none⟩ (Value.int IntKind.u32 (execC r p.c (p.now + a.wait) a).rc.tot.r)).setCell ⟨xb, 5, none⟩ (Value.int IntKind.u32 (execC r p.c (p.now + a.wait) a).rc.tot.s)).setCell ⟨xb, 6, none⟩ (Value.int IntKind.u32 (execC r p.c (p.now + a.wait) a).rc.tot.f)).setCell ⟨xb, 7, none⟩ (Value.int IntKind.u32 (execC r p.c (p.now + a.wait) a).rc.tot.x)).setCell ⟨xb, 8, none⟩ (Value.int IntKind.u32 (execC r p.c (p.now + a.wait) a).rc.tot.g)).setCell ⟨xb, 9, none⟩ (Value.int IntKind.u32 (execC r p.c (p.now + a.wait) a).rc.tot.h)) = W9 at *
      obtain ⟨i0, hi0, hz0, hz1, hz2⟩ := info_parts infoTold
      have hob : p.out.length ≤ 100000 := by have := B3.out; omega
      have hbase := S8.out.bel.size
      go_wp2_with (refine wpList_append_lies _ (by rfl) _ _ _ (by rfl) w.heap.size 40 i0 (.agg #[.bool false, .int .i64 0, .int .i64 0, .bool false, .int .u32 0, .int .u32 0, .int .u32 0, .int .u32 0, .int .u32 0, .int .u32 0]) 10 56 Tryz.underlying29 hi0 hz0 hz1 hz2 rfl (by omega) u11 p.out.length (toldFlat p.out) (by rfl) (S8.out.ot.alloc _) ⟨W9.heap.size, 0, none⟩ 1 1 (toldRow { t with cnt := (execC r p.c (p.now + a.wait) a).rc.tot }) (by rfl) rfl (World.news_of_block (heap_alloc_new W9 _)) (by intro u hu; simp [toldRow] at hu; rcases hu with rfl | rfl | rfl | rfl | rfl | rfl | rfl | rfl | rfl | rfl <;> rfl) (by omega) (by unfold maxLen; omega) (by omega) (by simp; omega) (W9.heap.size + 1) (by simp) ?_; intro g cp wA hown hgrow hat hlt)
      go_roundg (l.length - (i + 1))
      case measure => omega
      case rel =>
        have SA := (S8.out.alloc (Obj.cells (toldRow { t with cnt := (execC r p.c (p.now + a.wait) a).rc.tot }).toArray 40)).pushOut hown hgrow (by simpa using hat)
        have hx : (⟨(execC r p.c (p.now + a.wait) a), execNow p.c (p.now + a.wait) a, p.chs ++ execChs r p.c (p.now + a.wait) a, p.out ++ [{ t with cnt := (execC r p.c (p.now + a.wait) a).rc.tot }]⟩ : PC) = p.step r a := by rw [TT.out]; rfl
        have SA' : CSt w L r wA (p.step r a) cr4 (.slice (some ⟨g, 0, none⟩) (p.out.length + 1) cp) := by rw [← hx]; exact SA
        have q1 := execChs_len r p.c (p.now + a.wait) a
        refine ⟨i + 1, p.step r a, cr4, rfl, hin, by first | rfl | simp, Lib.hid ⟨SA', HO.out.exec r _ a, HFN.out, ?_, ?_, ?_⟩⟩
        · rw [← HR.out]; exact (PC.run_drop r p LA.out).symm
        · show (p.chs ++ execChs r p.c (p.now + a.wait) a).length ≤ 3 * (i + 1)
          rw [List.length_append]; omega
        · show (p.out ++ [_]).length = i + 1
          rw [List.length_append, B3.out]; rfl
    · have hiz : ¬ ((i : Int) < (l.length : Int)) := by omega
      have hieq : i = l.length := by omega
      obtain ⟨hS, hO, hFn, hR, b1, b3⟩ := hh.out
      have hpp : p = PC.run r (PC.start r start) l := by rw [← hR, hieq, List.drop_length]; rfl
      have HP := Lib.hid hpp
      obtain ⟨v, hv, ho, hrw⟩ := hS.sys.bed.bd
      have d1 := blk_cell hv 1
      simp at d1
      have HV := Lib.hid hv
      have HS' := Lib.hid hS
      have HOW := Lib.hid ho
      have HRW := Lib.hid hrw
      have HCI := Lib.hid (cbState_idle L cr r p.c p.now p.chs wr.drew hS.drew.sys (by omega) (by rw [hpp]; exact HID.out))
      have zb := size_of_heap hv
      clear hpp hieq hS hO hFn hR b1 b3 hv ho hrw hh HF HA
      go_upto_region 12 with fail
      go_region_held3 (fun w' => w'.cell? ⟨L.bd, 1, none⟩ = some v) (first | (go_keep; done) | ((try dsimp only); exact p1))
        ((first | (go_at_call 27; refine HCI.out.mono ?_; rintro e w2 ⟨rfl, hb2⟩; have p1 := blk_cell ((hb2.block L.bd zb).trans HV.out) 1; simp at p1)))
      go_wp2_with fail
      go_ret3
      have BB : Below wr.heap.size wr w2 := ((Below.refl _ _).drew).trans hb2
      refine ⟨u11, v, by rw [← HP.out]; rfl, ?_, ?_, HS'.out.bel.trans (BB.mono HS'.out.bel.size)⟩
      · rw [← HP.out]
        exact owns_keep HS'.out.ot fun g hg => BB.block g (HS'.out.ot.lt g hg).2
      · rw [← HP.out]
        refine owns_base (owns_keep HOW.out fun g hg => BB.block g (HOW.out.lt g hg).2) ?_
        intro g hg
        rcases HRW.out with e | e
        · rw [e] at hg; cases hg
        · rw [e] at hg; simp at hg; subst hg; exact HS'.out.old _ (by simp)

end Go.Proofs.YtcjklacfoldaoaaGreat

/- Contract of the thin package's execute, where the request panics, as a whole. Conditions: the breaker and its bed lie in their blocks, the numbers are in their ranges. -/
namespace Go.Proofs.YtcjklacfoldaoaaGreat
open Go.RowKit
attribute [local go_sem ↓] Go.wp_at_zero Go.wp_at_succ

set_option maxRecDepth 100000 in
set_option maxHeartbeats 4000000 in
theorem exec_pan (L : Loc) (cr bt xb xc : Nat) (r : Rules) (c : CB) (now : Int) (chs : List (Int × Int)) (k : Call) (w : World) (h : Sys w L cr r c now chs) (hl : Lay w L cr bt xb xc k Told.zero) (hlen : chs.length ≤ 999990) (hw : Win c now) (hcode : (c.look now).beforeCode = 0)
    (hp : k.pan = true) (l0 : 0 ≤ k.long) (n0 : -3000000000000000000 ≤ now) (n1 : now + k.long ≤ 3000000000000000000) (hw2 : Win (c.look now).before1 (now + k.long))
    (hit : ((c.look now).before1.look (now + k.long)).gen = (c.look now).gen → Hit ((c.look now).before1.look (now + k.long)) (c.look now).rc.age) :
    Calls Tryz.prog 52 #[.pointer (some ⟨L.cb, 0, none⟩), reqV bt xb xc] w fun e w' =>
      e = .panicked [{ v := panV, recovered := false }, { v := panV, recovered := true }] ∧ EvoL L r w cr bt xb xc k w' ((c.look now).before1.after r (c.look now).gen (c.look now).rc.age 7 (now + k.long)) (now + k.long) (chs ++ c.lookTold now ++ (c.look now).before1.afterTold r (c.look now).gen (c.look now).rc.age 7 (now + k.long)) ⟨true, 0, 0, false, Cnt.zero⟩ := by
  have HW := Lib.hid hw
  have HW2 := Lib.hid hw2
  have HH := Lib.hid hit
  have HP := Lib.hid hp
  have HC := Lib.hid (show codeV (c.look now).beforeCode = .nilIface by rw [hcode]; rfl)
  have S1 := Lib.hid (h.alloc (Obj.cells #[Value.pointer (some ⟨L.cb, 0, none⟩)] 60))
  have L1 := Lib.hid (hl.below ((Below.refl _ _).alloc (Nat.le_refl _) (Obj.cells #[Value.pointer (some ⟨L.cb, 0, none⟩)] 60)))
  have M1 := Lib.hid ((Mod.refl [] w).alloc (Obj.cells #[Value.pointer (some ⟨L.cb, 0, none⟩)] 60))
  have X1 := Lib.hid (heap_alloc_new w (Obj.cells #[Value.pointer (some ⟨L.cb, 0, none⟩)] 60))
  have P1 := Lib.hid (h.sep (Nat.le_refl _))
  have zt := Lib.hid (size_of_heap hl.told)
  have q1 := eq_nil_nil
  have q2 := hmf
  clear h hl hw hcode hw2 hit hp
  unfold reqV
  go_enter_defers Tryz.func52, Tryz.ntmps52
  go_wp2_with fail
  refine (beforeReq_any L cr r c now chs _ S1.out (by omega) HW.out).mono ?_
  rintro e w2 ⟨rfl, cr2, s2, k2, m2⟩
  obtain ⟨bx, hbx⟩ : ∃ b, b = w.heap.size := ⟨_, rfl⟩
  have X2 := Lib.hid (m2.heap X1.out P1.out)
  have P2 := Lib.hid (P1.out.next (size_of_heap X1.out) k2)
  have L2 := Lib.hid ((L1.out.go k2 m2).below (((Below.refl _ _).alloc (Nat.le_refl _) (Obj.cells #[Value.int IntKind.u64 (c.look now).gen] 50)).alloc (by simp) (Obj.cells #[Value.int IntKind.u64 (c.look now).rc.age] 50)))
  have S2 := Lib.hid ((s2.alloc (Obj.cells #[Value.int IntKind.u64 (c.look now).gen] 50)).alloc (Obj.cells #[Value.int IntKind.u64 (c.look now).rc.age] 50))
  have G2 := Lib.hid (heap_alloc_lt (o := (Obj.cells #[Value.int IntKind.u64 (c.look now).rc.age] 50)) (heap_alloc_new w2 (Obj.cells #[Value.int IntKind.u64 (c.look now).gen] 50)))
  have A2 := Lib.hid (show ((w2.alloc (Obj.cells #[Value.int IntKind.u64 (c.look now).gen] 50)).alloc (Obj.cells #[Value.int IntKind.u64 (c.look now).rc.age] 50)).heap[w2.heap.size + 1]? = _ from heap_alloc_at (by simp))
  have PG := Lib.hid (s2.sep (Nat.le_refl _))
  have PA := Lib.hid (s2.sep (Nat.le_succ _))
  have K2 := Lib.hid (show cr2 = cr ∨ w.heap.size ≤ cr2 from k2.elim .inl (fun q => .inr (by simp at q; omega)))
  have M2 := Lib.hid (((M1.out.mono (S' := [L.cb, L.rc, L.bk, L.bd, cr, bt]) (by simp)).trans (m2.mono (by simp))).trans (Mod.of_below (((Below.refl w2.heap.size w2).alloc (Nat.le_refl _) (Obj.cells #[Value.int IntKind.u64 (c.look now).gen] 50)).alloc (by simp) (Obj.cells #[Value.int IntKind.u64 (c.look now).rc.age] 50))))
  have X2' := Lib.hid (heap_alloc_lt (o := (Obj.cells #[Value.int IntKind.u64 (c.look now).rc.age] 50)) (heap_alloc_lt (o := (Obj.cells #[Value.int IntKind.u64 (c.look now).gen] 50)) X2.out))
  have Z2 := Lib.hid (show bt < w2.heap.size from size_of_heap (L1.out.go k2 m2).told)
  rw [HC.out]
  rw [← hbx] at X2' P2
  rw [← hbx]
  clear s2 k2 m2 X1 P1 X2 S1 L1 hbx
  go_upto_region 5 with fail
  obtain ⟨bg, hbg⟩ : ∃ b, b = w2.heap.size := ⟨_, rfl⟩
  rw [← hbg] at G2 A2 PG Z2
  have PA2 := Lib.hid (show Sep L cr2 (bg + 1) by rw [hbg]; exact PA.out)
  rw [← hbg]
  clear hbg PA
  generalize ((w2.alloc (Obj.cells #[Value.int IntKind.u64 (c.look now).gen] 50)).alloc (Obj.cells #[Value.int IntKind.u64 (c.look now).rc.age] 50)) = W3 at *
  have hl1 : (chs ++ c.lookTold now).length ≤ 999999 := by
    have : (c.lookTold now).length ≤ 1 := by unfold CB.lookTold; split <;> simp
    simp
    omega
  go_wp2_with fail
  refine (fn_pan L cr2 bt xb xc r (c.look now).before1 now (chs ++ c.lookTold now) k W3 S2.out L2.out HP.out n0 l0 n1).mono ?_
  rintro e w4 ⟨rfl, cr4, s4, l4, k4, m4⟩
  have nin {b : Nat} (hb : Sep L cr2 b) (hlt : bt < b) : b ∉ [L.cb, L.rc, L.bk, L.bd, cr2, bt] := by
    unfold Sep at hb
    simp at hb ⊢
    omega
  have nx : bx ≠ bt := by rintro rfl; have := L2.out.told.symm.trans X2'.out; simp at this
  have nix : bx ∉ [L.cb, L.rc, L.bk, L.bd, cr2, bt] := by
    have := P2.out
    unfold Sep at this
    simp at this ⊢
    omega
  have x4 := Lib.hid (m4.heap X2'.out nix)
  have g4 := Lib.hid (m4.heap G2.out (nin PG.out Z2.out))
  have a4 := Lib.hid (m4.heap A2.out (nin PA2.out (by have := Z2.out; omega)))
  have px := Lib.hid (P2.out.next (size_of_heap X2'.out) k4)
  have pg := Lib.hid (PG.out.next (size_of_heap G2.out) k4)
  have pa := Lib.hid (PA2.out.next (size_of_heap A2.out) k4)
  have S4 := Lib.hid s4
  have L4 := Lib.hid l4
  have K4 := Lib.hid k4
  have M4 := Lib.hid m4
  clear s4 l4 k4 m4 nin nix nx
  go_wp2_with fail
  refine leaves_cons (f := 72) (args := #[.pointer (some ⟨bx, 0, none⟩), .pointer (some ⟨bg, 0, none⟩), .pointer (some ⟨bg + 1, 0, none⟩)]) (by simp) (by simp [go_sem]) ?_
  refine (catch2_pan L cr4 bx bg (bg + 1) r (c.look now).before1 (now + k.long) (c.look now).gen (c.look now).rc.age (chs ++ c.lookTold now) reqText [] w4 S4.out hl1 HW2.out HH.out x4.out g4.out a4.out px.out pg.out pa.out).mono ?_
  rintro e u' w'' ⟨rfl, rfl, cr5, s5, k5, m5⟩
  refine ⟨rfl, ?_⟩
  exact EvoL.after K2.out M2.out (EvoL.after K4.out M4.out ⟨cr5, s5, L4.out.go k5 m5, k5, m5.mono (by simp)⟩)

set_option maxRecDepth 100000 in
set_option maxHeartbeats 4000000 in
theorem execute_pan (L : Loc) (cr : Nat) (r : Rules) (c : CB) (now : Int) (chs : List (Int × Int)) (k : Call) (w : World) (h : Sys w L cr r c now chs) (hlen : chs.length ≤ 999990) (hw : Win c now) (hcode : (c.look now).beforeCode = 0)
    (hp : k.pan = true) (l0 : 0 ≤ k.long) (n0 : -3000000000000000000 ≤ now) (n1 : now + k.long ≤ 3000000000000000000) (hw2 : Win (c.look now).before1 (now + k.long))
    (hit : ((c.look now).before1.look (now + k.long)).gen = (c.look now).gen → Hit ((c.look now).before1.look (now + k.long)) (c.look now).rc.age) :
    Calls Tryz.prog 24 #[.pointer (some ⟨L.cb, 0, none⟩), .pointer (some ⟨L.bd, 0, none⟩), .agg (callArr k)] w fun e w' =>
      e = .returned (.agg (toldArr ⟨true, 0, 0, true, Cnt.zero⟩)) ∧ Evo L r w cr w' ((c.look now).before1.after r (c.look now).gen (c.look now).rc.age 7 (now + k.long)) (now + k.long) (chs ++ c.lookTold now ++ (c.look now).before1.afterTold r (c.look now).gen (c.look now).rc.age 7 (now + k.long)) := by
  obtain ⟨s3, l3, m3⟩ := lay3 k h
  have HX := Lib.hid (exec_pan L cr (w.heap.size + 1 + 1) w.heap.size (w.heap.size + 1) r c now chs k (w3c w L k) s3 l3 hlen hw hcode hp l0 n0 n1 hw2 hit)
  have M3 := Lib.hid m3
  have q2 := hmf
  clear h s3 l3 m3 hcode hw hw2 hit hp
  unfold callArr
  go_enter_defers Tryz.func24, Tryz.ntmps24
  go_wp2_with fail
  obtain ⟨bt, hbt⟩ : ∃ b, b = w.heap.size + 1 + 1 := ⟨_, rfl⟩
  have HB := Lib.hid (show w.heap.size ≤ bt by omega)
  rw [← hbt] at HX
  rw [← hbt]
  clear hbt
  refine HX.out.mono ?_
  rintro e w4 ⟨rfl, ev⟩
  have E4 := Lib.hid ev
  clear ev HX
  go_wp2_with fail
  refine leaves_cons (f := 51) (args := #[.pointer (some ⟨bt, 0, none⟩)]) (by simp) (by simp [go_sem]) ?_
  refine (catch_pan L r _ cr bt _ _ k _ _ _ (.string reqText) 9 [{ v := panV, recovered := true }] w4 E4.out).mono ?_
  rintro e u' w'' ⟨rfl, rfl, ev⟩
  refine ⟨_, told_result ev.at_ rfl, rfl, ?_⟩
  exact ev.evo M3.out HB.out

theorem pan_said : PanSaid := by
  intro L cr r c now chs k w h hlen ho hc hp l0 n0 n1
  exact execute_pan L cr r c now chs k w h hlen (ho.win now) hc hp l0 n0 n1 ((ho.look now).before1.win _) (fun _ => by rw [ho.gen now]; exact (ho.look now).before1.hit _)

end Go.Proofs.YtcjklacfoldaoaaGreat
