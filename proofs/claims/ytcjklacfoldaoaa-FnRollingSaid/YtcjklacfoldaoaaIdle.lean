/- Contract of currentState and State where nothing is due: only memory is made. Conditions: the breaker, its bed and its rules lie in their blocks, the numbers are in their ranges. -/
import Derived.Test.YtcjklacfoldaoaaSmall
namespace Go.Proofs.Ytcjklacfoldaoaa
open Go.RowKit
attribute [local go_sem ↓] Go.wp_at_zero Go.wp_at_succ

set_option maxRecDepth 100000 in
set_option maxHeartbeats 2000000 in
theorem idle_closed0 (L : Loc) (cr : Nat) (r : Rules) (c : CB) (now : Int) (chs : List (Int × Int)) (w : World) (h : Sys w L cr r c now chs) (_hlen : chs.length ≤ 1000000) (hst : c.state = 0) (hx : c.exp = T0) (hn : c.rc.bs.length < 2) :
    Calls Try.prog 76 #[.pointer (some ⟨L.cb, 0, none⟩), .agg #[.int .u64 (NS now), .int .i64 (SEC now), .pointer none]] w fun e w' => e = .returned (.tuple #[.int .i64 (c).state, .int .u64 (c).gen, .int .u64 (c).rc.age]) ∧ Below w.heap.size w w' := by
  have HX := Lib.hid hx
  clear hx
  have HS := Lib.hid h
  have HST := Lib.hid hst
  obtain ⟨z1, z2, z3, z4, z5, z6, z7⟩ := h.lts
  obtain ⟨hc, hf⟩ := h.cb.cells
  have g10 := hc 10
  have g11 := hc 11
  have g12 := hc 12
  have g16 := hc 16
  have g17 := hc 17
  have g18 := hc 18
  simp at g10 g11 g12 g16 g17 g18
  rw [hst] at g10
  have g7 := h.cb.rc.cells.1 7
  have g6 := h.cb.rc.cells.1 6
  simp at g6 g7
  have S1 := Lib.hid (h.alloc (Obj.cells #[Value.int IntKind.u64 (NS now), Value.int IntKind.i64 (SEC now), Value.pointer none] 118))
  have B1 := Lib.hid (heap_alloc_new w (Obj.cells #[Value.int IntKind.u64 (NS now), Value.int IntKind.i64 (SEC now), Value.pointer none] 118))
  have y1 : L.cb ≠ w.heap.size := by omega
  have y2 : L.rc ≠ w.heap.size := by omega
  have y3 := y1.symm
  have y4 := y2.symm
  clear h hst hc hf
  go_enter Try.func76, Try.ntmps76
  go_wp2_with fail
  first | (go_region_with ((go_at_call 92; refine (isZero_yes c.exp _ HX.out).mono ?_; rintro e w2 ⟨rfl, hb2⟩; have S2 := Lib.hid (S1.out.drew.below hb2); obtain ⟨cc, _⟩ := S2.out.cb.cells; have p16 := cc 16; have p17 := cc 17; have p18 := cc 18; obtain ⟨c2, _, hz2, B2⟩ := kept hb2 (heap_drew B1.out); have q0 := c2 0; have q1 := c2 1; have q2 := c2 2; simp at p16 p17 p18 q0 q1 q2; clear cc c2))) | fail
  all_goals (
    clear p16 p17 p18 q0 q1 q2
    clear g10 g12 g7
    obtain ⟨hc, hf⟩ := S2.out.cb.cells
    have g10 := hc 10
    have g12 := hc 12
    have g7 := S2.out.cb.rc.cells.1 7
    simp at g10 g12 g7
    rw [HST.out] at g10
    clear hc hf
    have hn' : ¬ (2 : Int) ≤ (c.rc.bs.length : Int) := by omega
    go_wp2_with fail
    clear g10 g12 g7
    have EF := Lib.hid (show Evo L r w cr _ _ now _ from ⟨cr, S2.out, .inl rfl, ((((Mod.refl [L.cb, L.rc, L.bk, L.bd, cr] w).alloc (Obj.cells #[Value.int IntKind.u64 (NS now), Value.int IntKind.i64 (SEC now), Value.pointer none] 118)).drew.trans (Mod.of_below hb2)))⟩)
    have BF := Lib.hid (show Below w.heap.size w _ from ((((Below.refl w.heap.size w).alloc (by first | exact Nat.le_refl _ | simp | (simp; omega)) (Obj.cells #[Value.int IntKind.u64 (NS now), Value.int IntKind.i64 (SEC now), Value.pointer none] 118)).drew.trans (hb2.mono (by first | exact Nat.le_refl _ | (simp; done) | (have := hb2.size; simp at this; omega))))))
    obtain ⟨crF, sF, kF, mF⟩ := EF.out
    obtain ⟨hcF, _⟩ := sF.cb.cells
    have k10 := hcF 10
    have k11 := hcF 11
    have k12 := hcF 12
    have r6 := sF.cb.rc.cells.1 6
    simp at k10 k11 k12 r6
    have SF := Lib.hid sF
    have KF := Lib.hid kF
    have MF := Lib.hid mF
    clear hcF EF sF kF mF
    go_wp2_with fail
    go_quiet (fail)
    go_wp2_with fail
    go_ret3
    exact ⟨rfl, BF.out.trans ⟨rfl, rfl, rfl, Nat.le_refl _, fun _ _ => rfl⟩⟩)

set_option maxRecDepth 100000 in
set_option maxHeartbeats 2000000 in
theorem idle_closedlive (L : Loc) (cr : Nat) (r : Rules) (c : CB) (now : Int) (chs : List (Int × Int)) (w : World) (h : Sys w L cr r c now chs) (_hlen : chs.length ≤ 1000000) (hst : c.state = 0) (hx : c.exp ≠ T0) (hy : now ≤ c.exp) (hn : c.rc.bs.length < 2) :
    Calls Try.prog 76 #[.pointer (some ⟨L.cb, 0, none⟩), .agg #[.int .u64 (NS now), .int .i64 (SEC now), .pointer none]] w fun e w' => e = .returned (.tuple #[.int .i64 (c).state, .int .u64 (c).gen, .int .u64 (c).rc.age]) ∧ Below w.heap.size w w' := by
  have HX := Lib.hid hx
  clear hx
  have HY := Lib.hid hy
  clear hy
  have HS := Lib.hid h
  have HST := Lib.hid hst
  obtain ⟨z1, z2, z3, z4, z5, z6, z7⟩ := h.lts
  obtain ⟨hc, hf⟩ := h.cb.cells
  have g10 := hc 10
  have g11 := hc 11
  have g12 := hc 12
  have g16 := hc 16
  have g17 := hc 17
  have g18 := hc 18
  simp at g10 g11 g12 g16 g17 g18
  rw [hst] at g10
  have g7 := h.cb.rc.cells.1 7
  have g6 := h.cb.rc.cells.1 6
  simp at g6 g7
  have S1 := Lib.hid (h.alloc (Obj.cells #[Value.int IntKind.u64 (NS now), Value.int IntKind.i64 (SEC now), Value.pointer none] 118))
  have B1 := Lib.hid (heap_alloc_new w (Obj.cells #[Value.int IntKind.u64 (NS now), Value.int IntKind.i64 (SEC now), Value.pointer none] 118))
  have y1 : L.cb ≠ w.heap.size := by omega
  have y2 : L.rc ≠ w.heap.size := by omega
  have y3 := y1.symm
  have y4 := y2.symm
  clear h hst hc hf
  go_enter Try.func76, Try.ntmps76
  go_wp2_with fail
  go_region_held3 (fun w' => w'.cell? ⟨L.cb, 16, none⟩ = some (.int .u64 (NS c.exp)) ∧ w'.cell? ⟨L.cb, 17, none⟩ = some (.int .i64 (SEC c.exp)) ∧ w'.cell? ⟨L.cb, 18, none⟩ = some (.pointer none) ∧ w'.cell? ⟨w.heap.size, 0, none⟩ = some (.int .u64 (NS now)) ∧ w'.cell? ⟨w.heap.size, 1, none⟩ = some (.int .i64 (SEC now)) ∧ w'.cell? ⟨w.heap.size, 2, none⟩ = some (.pointer none)) (first | (go_keep; done) | ((try dsimp only); exact ⟨p16, p17, p18, q0, q1, q2⟩))
    ((first | (go_at_call 92; refine (isZero_no c.exp _ HX.out).mono ?_; rintro e w2 ⟨rfl, hb2⟩; have S2 := Lib.hid (S1.out.drew.below hb2); obtain ⟨cc, _⟩ := S2.out.cb.cells; have p16 := cc 16; have p17 := cc 17; have p18 := cc 18; obtain ⟨c2, _, hz2, B2⟩ := kept hb2 (heap_drew B1.out); have q0 := c2 0; have q1 := c2 1; have q2 := c2 2; simp at p16 p17 p18 q0 q1 q2; clear cc c2) | (go_at_call 93; refine (before_no c.exp now _ (by have := HY.out; omega)).mono ?_; rintro e w3 ⟨rfl, hb3⟩; have S3 := Lib.hid (S2.out.below hb3); obtain ⟨cc, _⟩ := S3.out.cb.cells; have p16 := cc 16; have p17 := cc 17; have p18 := cc 18; obtain ⟨c3, _, hz3, B3⟩ := kept hb3 B2; have q0 := c3 0; have q1 := c3 1; have q2 := c3 2; simp at p16 p17 p18 q0 q1 q2; clear cc c3)))
  clear p16 p17 p18 q0 q1 q2
  clear g10 g12 g7
  obtain ⟨hc, hf⟩ := S3.out.cb.cells
  have g10 := hc 10
  have g12 := hc 12
  have g7 := S3.out.cb.rc.cells.1 7
  simp at g10 g12 g7
  rw [HST.out] at g10
  clear hc hf
  have hn' : ¬ (2 : Int) ≤ (c.rc.bs.length : Int) := by omega
  go_wp2_with fail
  clear g10 g12 g7
  have EF := Lib.hid (show Evo L r w cr _ _ now _ from ⟨cr, S3.out, .inl rfl, (((((Mod.refl [L.cb, L.rc, L.bk, L.bd, cr] w).alloc (Obj.cells #[Value.int IntKind.u64 (NS now), Value.int IntKind.i64 (SEC now), Value.pointer none] 118)).drew.trans (Mod.of_below hb2))).trans (Mod.of_below hb3))⟩)
  have BF := Lib.hid (show Below w.heap.size w _ from (((((Below.refl w.heap.size w).alloc (by first | exact Nat.le_refl _ | simp | (simp; omega)) (Obj.cells #[Value.int IntKind.u64 (NS now), Value.int IntKind.i64 (SEC now), Value.pointer none] 118)).drew.trans (hb2.mono (by first | exact Nat.le_refl _ | (simp; done) | (have := hb2.size; simp at this; omega))))).trans (hb3.mono (by first | exact Nat.le_refl _ | (simp; done) | (have := hb2.size; simp at this; omega)))))
  obtain ⟨crF, sF, kF, mF⟩ := EF.out
  obtain ⟨hcF, _⟩ := sF.cb.cells
  have k10 := hcF 10
  have k11 := hcF 11
  have k12 := hcF 12
  have r6 := sF.cb.rc.cells.1 6
  simp at k10 k11 k12 r6
  have SF := Lib.hid sF
  have KF := Lib.hid kF
  have MF := Lib.hid mF
  clear hcF EF sF kF mF
  go_wp2_with fail
  go_quiet (fail)
  go_wp2_with fail
  go_ret3
  exact ⟨rfl, BF.out.trans ⟨rfl, rfl, rfl, Nat.le_refl _, fun _ _ => rfl⟩⟩

set_option maxRecDepth 100000 in
set_option maxHeartbeats 2000000 in
theorem idle_openlive (L : Loc) (cr : Nat) (r : Rules) (c : CB) (now : Int) (chs : List (Int × Int)) (w : World) (h : Sys w L cr r c now chs) (_hlen : chs.length ≤ 1000000) (hst : c.state = 2) (hy : now ≤ c.exp) :
    Calls Try.prog 76 #[.pointer (some ⟨L.cb, 0, none⟩), .agg #[.int .u64 (NS now), .int .i64 (SEC now), .pointer none]] w fun e w' => e = .returned (.tuple #[.int .i64 (c).state, .int .u64 (c).gen, .int .u64 (c).rc.age]) ∧ Below w.heap.size w w' := by
  have HY := Lib.hid hy
  clear hy
  have HS := Lib.hid h
  have HST := Lib.hid hst
  obtain ⟨z1, z2, z3, z4, z5, z6, z7⟩ := h.lts
  obtain ⟨hc, hf⟩ := h.cb.cells
  have g10 := hc 10
  have g11 := hc 11
  have g12 := hc 12
  have g16 := hc 16
  have g17 := hc 17
  have g18 := hc 18
  simp at g10 g11 g12 g16 g17 g18
  rw [hst] at g10
  have g7 := h.cb.rc.cells.1 7
  have g6 := h.cb.rc.cells.1 6
  simp at g6 g7
  have S1 := Lib.hid (h.alloc (Obj.cells #[Value.int IntKind.u64 (NS now), Value.int IntKind.i64 (SEC now), Value.pointer none] 118))
  have B1 := Lib.hid (heap_alloc_new w (Obj.cells #[Value.int IntKind.u64 (NS now), Value.int IntKind.i64 (SEC now), Value.pointer none] 118))
  have y1 : L.cb ≠ w.heap.size := by omega
  have y2 : L.rc ≠ w.heap.size := by omega
  have y3 := y1.symm
  have y4 := y2.symm
  clear h hst hc hf
  go_enter Try.func76, Try.ntmps76
  go_wp2_with fail
  go_region_held3 (fun w' => w'.cell? ⟨L.cb, 16, none⟩ = some (.int .u64 (NS c.exp)) ∧ w'.cell? ⟨L.cb, 17, none⟩ = some (.int .i64 (SEC c.exp)) ∧ w'.cell? ⟨L.cb, 18, none⟩ = some (.pointer none) ∧ w'.cell? ⟨w.heap.size, 0, none⟩ = some (.int .u64 (NS now)) ∧ w'.cell? ⟨w.heap.size, 1, none⟩ = some (.int .i64 (SEC now)) ∧ w'.cell? ⟨w.heap.size, 2, none⟩ = some (.pointer none)) (first | (go_keep; done) | ((try dsimp only); exact ⟨p16, p17, p18, q0, q1, q2⟩))
    ((first | (go_at_call 93; refine (before_no c.exp now _ (by have := HY.out; omega)).mono ?_; rintro e w2 ⟨rfl, hb2⟩; have S2 := Lib.hid (S1.out.drew.below hb2); obtain ⟨cc, _⟩ := S2.out.cb.cells; have p16 := cc 16; have p17 := cc 17; have p18 := cc 18; obtain ⟨c2, _, hz2, B2⟩ := kept hb2 (heap_drew B1.out); have q0 := c2 0; have q1 := c2 1; have q2 := c2 2; simp at p16 p17 p18 q0 q1 q2; clear cc c2)))
  clear p16 p17 p18 q0 q1 q2
  clear g10 g11 g12 g16 g17 g18 g6 g7
  have EF := Lib.hid (show Evo L r w cr _ _ now _ from ⟨cr, S2.out, .inl rfl, ((((Mod.refl [L.cb, L.rc, L.bk, L.bd, cr] w).alloc (Obj.cells #[Value.int IntKind.u64 (NS now), Value.int IntKind.i64 (SEC now), Value.pointer none] 118)).drew.trans (Mod.of_below hb2)))⟩)
  have BF := Lib.hid (show Below w.heap.size w _ from ((((Below.refl w.heap.size w).alloc (by first | exact Nat.le_refl _ | simp | (simp; omega)) (Obj.cells #[Value.int IntKind.u64 (NS now), Value.int IntKind.i64 (SEC now), Value.pointer none] 118)).drew.trans (hb2.mono (by first | exact Nat.le_refl _ | (simp; done) | (have := hb2.size; simp at this; omega))))))
  obtain ⟨crF, sF, kF, mF⟩ := EF.out
  obtain ⟨hcF, _⟩ := sF.cb.cells
  have k10 := hcF 10
  have k11 := hcF 11
  have k12 := hcF 12
  have r6 := sF.cb.rc.cells.1 6
  simp at k10 k11 k12 r6
  have SF := Lib.hid sF
  have KF := Lib.hid kF
  have MF := Lib.hid mF
  clear hcF EF sF kF mF
  go_wp2_with fail
  go_quiet (fail)
  go_wp2_with fail
  go_ret3
  exact ⟨rfl, BF.out.trans ⟨rfl, rfl, rfl, Nat.le_refl _, fun _ _ => rfl⟩⟩

set_option maxRecDepth 100000 in
set_option maxHeartbeats 2000000 in
theorem idle_half (L : Loc) (cr : Nat) (r : Rules) (c : CB) (now : Int) (chs : List (Int × Int)) (w : World) (h : Sys w L cr r c now chs) (_hlen : chs.length ≤ 1000000) (hst : c.state = 1) :
    Calls Try.prog 76 #[.pointer (some ⟨L.cb, 0, none⟩), .agg #[.int .u64 (NS now), .int .i64 (SEC now), .pointer none]] w fun e w' => e = .returned (.tuple #[.int .i64 (c).state, .int .u64 (c).gen, .int .u64 (c).rc.age]) ∧ Below w.heap.size w w' := by
  have HS := Lib.hid h
  have HST := Lib.hid hst
  obtain ⟨z1, z2, z3, z4, z5, z6, z7⟩ := h.lts
  obtain ⟨hc, hf⟩ := h.cb.cells
  have g10 := hc 10
  have g11 := hc 11
  have g12 := hc 12
  have g16 := hc 16
  have g17 := hc 17
  have g18 := hc 18
  simp at g10 g11 g12 g16 g17 g18
  rw [hst] at g10
  have g7 := h.cb.rc.cells.1 7
  have g6 := h.cb.rc.cells.1 6
  simp at g6 g7
  have S1 := Lib.hid (h.alloc (Obj.cells #[Value.int IntKind.u64 (NS now), Value.int IntKind.i64 (SEC now), Value.pointer none] 118))
  have B1 := Lib.hid (heap_alloc_new w (Obj.cells #[Value.int IntKind.u64 (NS now), Value.int IntKind.i64 (SEC now), Value.pointer none] 118))
  have y1 : L.cb ≠ w.heap.size := by omega
  have y2 : L.rc ≠ w.heap.size := by omega
  have y3 := y1.symm
  have y4 := y2.symm
  clear h hst hc hf
  go_enter Try.func76, Try.ntmps76
  go_wp2_with fail
  clear g10 g11 g12 g16 g17 g18 g6 g7
  have EF := Lib.hid (show Evo L r w cr _ _ now _ from ⟨cr, S1.out, .inl rfl, (Mod.refl [L.cb, L.rc, L.bk, L.bd, cr] w).alloc _⟩)
  have BF := Lib.hid (show Below w.heap.size w _ from (Below.refl w.heap.size w).alloc (by first | exact Nat.le_refl _ | simp | (simp; omega)) (Obj.cells #[Value.int IntKind.u64 (NS now), Value.int IntKind.i64 (SEC now), Value.pointer none] 118))
  obtain ⟨crF, sF, kF, mF⟩ := EF.out
  obtain ⟨hcF, _⟩ := sF.cb.cells
  have k10 := hcF 10
  have k11 := hcF 11
  have k12 := hcF 12
  have r6 := sF.cb.rc.cells.1 6
  simp at k10 k11 k12 r6
  have SF := Lib.hid sF
  have KF := Lib.hid kF
  have MF := Lib.hid mF
  clear hcF EF sF kF mF
  go_wp2_with fail
  go_quiet (fail)
  go_wp2_with fail
  go_ret3
  exact ⟨rfl, BF.out.trans ⟨rfl, rfl, rfl, Nat.le_refl _, fun _ _ => rfl⟩⟩


/-- Nothing is due. -/
def CB.Idle (c : CB) (now : Int) : Prop := (c.state = 0 ∧ (c.exp = T0 ∨ now ≤ c.exp) ∧ c.rc.bs.length < 2) ∨ c.state = 1 ∨ (c.state = 2 ∧ now ≤ c.exp)
theorem idle_any (L : Loc) (cr : Nat) (r : Rules) (c : CB) (now : Int) (chs : List (Int × Int)) (w : World) (h : Sys w L cr r c now chs) (hlen : chs.length ≤ 1000000) (hi : c.Idle now) :
    Calls Try.prog 76 #[.pointer (some ⟨L.cb, 0, none⟩), .agg #[.int .u64 (NS now), .int .i64 (SEC now), .pointer none]] w fun e w' => e = .returned (.tuple #[.int .i64 (c).state, .int .u64 (c).gen, .int .u64 (c).rc.age]) ∧ Below w.heap.size w w' := by
  rcases hi with ⟨hs, hx, hn⟩ | hs | ⟨hs, hx⟩
  · by_cases hT : c.exp = T0
    · exact idle_closed0 L cr r c now chs w h hlen hs hT hn
    · exact idle_closedlive L cr r c now chs w h hlen hs hT (by omega) hn
  · exact idle_half L cr r c now chs w h hlen hs
  · exact idle_openlive L cr r c now chs w h hlen hs (by omega)

set_option maxHeartbeats 1000000 in
theorem cbState_idle (L : Loc) (cr : Nat) (r : Rules) (c : CB) (now : Int) (chs : List (Int × Int)) (w : World) (h : Sys w L cr r c now chs) (hlen : chs.length ≤ 1000000) (hi : c.Idle now) :
    Calls Try.prog 51 #[.pointer (some ⟨L.cb, 0, none⟩)] w fun e w' => e = .returned (.int .i64 c.state) ∧ Below w.heap.size w w' := by
  have HS := Lib.hid h
  have HI := Lib.hid hi
  obtain ⟨hc, hf⟩ := h.cb.cells
  have g0 := hc 0
  simp [nowV] at g0
  clear h hi hc hf
  go_enter Try.func51, Try.ntmps51
  go_wp2_with fail
  refine (now_any L cr now chs _ HS.out.bed HS.out.now0 HS.out.now1).mono ?_
  rintro e w1 ⟨rfl, hb1⟩
  have S1 := Lib.hid (HS.out.below hb1)
  have B1 := Lib.hid hb1
  clear hb1 g0
  go_wp2_with fail
  have S2 := Lib.hid (S1.out.alloc (Obj.cells #[Value.int IntKind.u64 (NS now), Value.int IntKind.i64 (SEC now), Value.pointer none] 118))
  have B2 := Lib.hid (B1.out.alloc B1.out.size (Obj.cells #[Value.int IntKind.u64 (NS now), Value.int IntKind.i64 (SEC now), Value.pointer none] 118))
  refine (idle_any L cr r c now chs _ S2.out hlen HI.out).mono ?_
  rintro e w3 ⟨rfl, hb3⟩
  have B3 := Lib.hid (B2.out.trans (hb3.mono B2.out.size))
  clear hb3
  go_wp2_with fail
  go_ret
  exact ⟨rfl, B3.out⟩

end Go.Proofs.Ytcjklacfoldaoaa
