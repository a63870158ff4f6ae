/- Contract of currentState, case by case. Conditions: the breaker, its bed and its rules lie in their blocks, the numbers are in their ranges. -/
import Derived.Test.YtcjklacfoldaoaaSys
namespace Go.Proofs.Ytcjklacfoldaoaa
open Go.RowKit
attribute [local go_sem ↓] Go.wp_at_zero Go.wp_at_succ

set_option maxRecDepth 100000 in
set_option maxHeartbeats 2000000 in
theorem cur_closed0 (L : Loc) (cr : Nat) (r : Rules) (c : CB) (now : Int) (chs : List (Int × Int)) (w : World) (h : Sys w L cr r c now chs) (_hlen : chs.length ≤ 1000000) (hst : c.state = 0) (hx : c.exp = T0) (hn : c.rc.bs.length < 2) :
    Calls Try.prog 76 #[.pointer (some ⟨L.cb, 0, none⟩), .agg #[.int .u64 (NS now), .int .i64 (SEC now), .pointer none]] w fun e w' => e = .returned (.tuple #[.int .i64 (c).state, .int .u64 (c).gen, .int .u64 (c).rc.age]) ∧ Evo L r w cr w' (c) now (chs) := by
  have HX := Lib.hid hx
  clear hx
  have HS := Lib.hid h
  have HST := Lib.hid hst
  obtain ⟨z1, z2, z3, z4, z5, z6, z7⟩ := h.lts
  obtain ⟨hc, hf⟩ := h.cb.cells
  have g10 := hc 10
  have g11 := hc 11
  have g12 := hc 12
  have g16 := hc 16
  have g17 := hc 17
  have g18 := hc 18
  simp at g10 g11 g12 g16 g17 g18
  rw [hst] at g10
  have g7 := h.cb.rc.cells.1 7
  have g6 := h.cb.rc.cells.1 6
  simp at g6 g7
  have S1 := Lib.hid (h.alloc (Obj.cells #[Value.int IntKind.u64 (NS now), Value.int IntKind.i64 (SEC now), Value.pointer none] 118))
  have B1 := Lib.hid (heap_alloc_new w (Obj.cells #[Value.int IntKind.u64 (NS now), Value.int IntKind.i64 (SEC now), Value.pointer none] 118))
  have y1 : L.cb ≠ w.heap.size := by omega
  have y2 : L.rc ≠ w.heap.size := by omega
  have y3 := y1.symm
  have y4 := y2.symm
  clear h hst hc hf
  go_enter Try.func76, Try.ntmps76
  go_wp2_with fail
  first | (go_region_with ((go_at_call 92; refine (isZero_yes c.exp _ HX.out).mono ?_; rintro e w2 ⟨rfl, hb2⟩; have S2 := Lib.hid (S1.out.drew.below hb2); obtain ⟨cc, _⟩ := S2.out.cb.cells; have p16 := cc 16; have p17 := cc 17; have p18 := cc 18; obtain ⟨c2, _, hz2, B2⟩ := kept hb2 (heap_drew B1.out); have q0 := c2 0; have q1 := c2 1; have q2 := c2 2; simp at p16 p17 p18 q0 q1 q2; clear cc c2))) | fail
  all_goals (
    clear p16 p17 p18 q0 q1 q2
    clear g10 g12 g7
    obtain ⟨hc, hf⟩ := S2.out.cb.cells
    have g10 := hc 10
    have g12 := hc 12
    have g7 := S2.out.cb.rc.cells.1 7
    simp at g10 g12 g7
    rw [HST.out] at g10
    clear hc hf
    have hn' : ¬ (2 : Int) ≤ (c.rc.bs.length : Int) := by omega
    go_wp2_with fail
    clear g10 g12 g7
    have EF := Lib.hid (show Evo L r w cr _ _ now _ from ⟨cr, S2.out, .inl rfl, ((((Mod.refl [L.cb, L.rc, L.bk, L.bd, cr] w).alloc (Obj.cells #[Value.int IntKind.u64 (NS now), Value.int IntKind.i64 (SEC now), Value.pointer none] 118)).drew.trans (Mod.of_below hb2)))⟩)
    obtain ⟨crF, sF, kF, mF⟩ := EF.out
    obtain ⟨hcF, _⟩ := sF.cb.cells
    have k10 := hcF 10
    have k11 := hcF 11
    have k12 := hcF 12
    have r6 := sF.cb.rc.cells.1 6
    simp at k10 k11 k12 r6
    have SF := Lib.hid sF
    have KF := Lib.hid kF
    have MF := Lib.hid mF
    clear hcF EF sF kF mF
    go_wp2_with fail
    go_quiet (fail)
    go_wp2_with fail
    go_ret3
    exact ⟨rfl, crF, SF.out.drewN _, KF.out, MF.out.drewN _⟩)

set_option maxRecDepth 100000 in
set_option maxHeartbeats 2000000 in
theorem cur_closedlive (L : Loc) (cr : Nat) (r : Rules) (c : CB) (now : Int) (chs : List (Int × Int)) (w : World) (h : Sys w L cr r c now chs) (_hlen : chs.length ≤ 1000000) (hst : c.state = 0) (hx : c.exp ≠ T0) (hy : now ≤ c.exp) (hn : c.rc.bs.length < 2) :
    Calls Try.prog 76 #[.pointer (some ⟨L.cb, 0, none⟩), .agg #[.int .u64 (NS now), .int .i64 (SEC now), .pointer none]] w fun e w' => e = .returned (.tuple #[.int .i64 (c).state, .int .u64 (c).gen, .int .u64 (c).rc.age]) ∧ Evo L r w cr w' (c) now (chs) := by
  have HX := Lib.hid hx
  clear hx
  have HY := Lib.hid hy
  clear hy
  have HS := Lib.hid h
  have HST := Lib.hid hst
  obtain ⟨z1, z2, z3, z4, z5, z6, z7⟩ := h.lts
  obtain ⟨hc, hf⟩ := h.cb.cells
  have g10 := hc 10
  have g11 := hc 11
  have g12 := hc 12
  have g16 := hc 16
  have g17 := hc 17
  have g18 := hc 18
  simp at g10 g11 g12 g16 g17 g18
  rw [hst] at g10
  have g7 := h.cb.rc.cells.1 7
  have g6 := h.cb.rc.cells.1 6
  simp at g6 g7
  have S1 := Lib.hid (h.alloc (Obj.cells #[Value.int IntKind.u64 (NS now), Value.int IntKind.i64 (SEC now), Value.pointer none] 118))
  have B1 := Lib.hid (heap_alloc_new w (Obj.cells #[Value.int IntKind.u64 (NS now), Value.int IntKind.i64 (SEC now), Value.pointer none] 118))
  have y1 : L.cb ≠ w.heap.size := by omega
  have y2 : L.rc ≠ w.heap.size := by omega
  have y3 := y1.symm
  have y4 := y2.symm
  clear h hst hc hf
  go_enter Try.func76, Try.ntmps76
  go_wp2_with fail
  go_region_held3 (fun w' => w'.cell? ⟨L.cb, 16, none⟩ = some (.int .u64 (NS c.exp)) ∧ w'.cell? ⟨L.cb, 17, none⟩ = some (.int .i64 (SEC c.exp)) ∧ w'.cell? ⟨L.cb, 18, none⟩ = some (.pointer none) ∧ w'.cell? ⟨w.heap.size, 0, none⟩ = some (.int .u64 (NS now)) ∧ w'.cell? ⟨w.heap.size, 1, none⟩ = some (.int .i64 (SEC now)) ∧ w'.cell? ⟨w.heap.size, 2, none⟩ = some (.pointer none)) (first | (go_keep; done) | ((try dsimp only); exact ⟨p16, p17, p18, q0, q1, q2⟩))
    ((first | (go_at_call 92; refine (isZero_no c.exp _ HX.out).mono ?_; rintro e w2 ⟨rfl, hb2⟩; have S2 := Lib.hid (S1.out.drew.below hb2); obtain ⟨cc, _⟩ := S2.out.cb.cells; have p16 := cc 16; have p17 := cc 17; have p18 := cc 18; obtain ⟨c2, _, hz2, B2⟩ := kept hb2 (heap_drew B1.out); have q0 := c2 0; have q1 := c2 1; have q2 := c2 2; simp at p16 p17 p18 q0 q1 q2; clear cc c2) | (go_at_call 93; refine (before_no c.exp now _ (by have := HY.out; omega)).mono ?_; rintro e w3 ⟨rfl, hb3⟩; have S3 := Lib.hid (S2.out.below hb3); obtain ⟨cc, _⟩ := S3.out.cb.cells; have p16 := cc 16; have p17 := cc 17; have p18 := cc 18; obtain ⟨c3, _, hz3, B3⟩ := kept hb3 B2; have q0 := c3 0; have q1 := c3 1; have q2 := c3 2; simp at p16 p17 p18 q0 q1 q2; clear cc c3)))
  clear p16 p17 p18 q0 q1 q2
  clear g10 g12 g7
  obtain ⟨hc, hf⟩ := S3.out.cb.cells
  have g10 := hc 10
  have g12 := hc 12
  have g7 := S3.out.cb.rc.cells.1 7
  simp at g10 g12 g7
  rw [HST.out] at g10
  clear hc hf
  have hn' : ¬ (2 : Int) ≤ (c.rc.bs.length : Int) := by omega
  go_wp2_with fail
  clear g10 g12 g7
  have EF := Lib.hid (show Evo L r w cr _ _ now _ from ⟨cr, S3.out, .inl rfl, (((((Mod.refl [L.cb, L.rc, L.bk, L.bd, cr] w).alloc (Obj.cells #[Value.int IntKind.u64 (NS now), Value.int IntKind.i64 (SEC now), Value.pointer none] 118)).drew.trans (Mod.of_below hb2))).trans (Mod.of_below hb3))⟩)
  obtain ⟨crF, sF, kF, mF⟩ := EF.out
  obtain ⟨hcF, _⟩ := sF.cb.cells
  have k10 := hcF 10
  have k11 := hcF 11
  have k12 := hcF 12
  have r6 := sF.cb.rc.cells.1 6
  simp at k10 k11 k12 r6
  have SF := Lib.hid sF
  have KF := Lib.hid kF
  have MF := Lib.hid mF
  clear hcF EF sF kF mF
  go_wp2_with fail
  go_quiet (fail)
  go_wp2_with fail
  go_ret3
  exact ⟨rfl, crF, SF.out.drewN _, KF.out, MF.out.drewN _⟩

set_option maxRecDepth 100000 in
set_option maxHeartbeats 2000000 in
theorem cur_closedexp (L : Loc) (cr : Nat) (r : Rules) (c : CB) (now : Int) (chs : List (Int × Int)) (w : World) (h : Sys w L cr r c now chs) (_hlen : chs.length ≤ 1000000) (hst : c.state = 0) (hx : c.exp ≠ T0) (hy : c.exp < now) :
    Calls Try.prog 76 #[.pointer (some ⟨L.cb, 0, none⟩), .agg #[.int .u64 (NS now), .int .i64 (SEC now), .pointer none]] w fun e w' => e = .returned (.tuple #[.int .i64 (c.newGen now).state, .int .u64 (c.newGen now).gen, .int .u64 (c.newGen now).rc.age]) ∧ Evo L r w cr w' (c.newGen now) now (chs) := by
  have HX := Lib.hid hx
  clear hx
  have HY := Lib.hid hy
  clear hy
  have HS := Lib.hid h
  have HST := Lib.hid hst
  obtain ⟨z1, z2, z3, z4, z5, z6, z7⟩ := h.lts
  obtain ⟨hc, hf⟩ := h.cb.cells
  have g10 := hc 10
  have g11 := hc 11
  have g12 := hc 12
  have g16 := hc 16
  have g17 := hc 17
  have g18 := hc 18
  simp at g10 g11 g12 g16 g17 g18
  rw [hst] at g10
  have g7 := h.cb.rc.cells.1 7
  have g6 := h.cb.rc.cells.1 6
  simp at g6 g7
  have S1 := Lib.hid (h.alloc (Obj.cells #[Value.int IntKind.u64 (NS now), Value.int IntKind.i64 (SEC now), Value.pointer none] 118))
  have B1 := Lib.hid (heap_alloc_new w (Obj.cells #[Value.int IntKind.u64 (NS now), Value.int IntKind.i64 (SEC now), Value.pointer none] 118))
  have y1 : L.cb ≠ w.heap.size := by omega
  have y2 : L.rc ≠ w.heap.size := by omega
  have y3 := y1.symm
  have y4 := y2.symm
  clear h hst hc hf
  go_enter Try.func76, Try.ntmps76
  go_wp2_with fail
  go_region_held3 (fun w' => w'.cell? ⟨L.cb, 16, none⟩ = some (.int .u64 (NS c.exp)) ∧ w'.cell? ⟨L.cb, 17, none⟩ = some (.int .i64 (SEC c.exp)) ∧ w'.cell? ⟨L.cb, 18, none⟩ = some (.pointer none) ∧ w'.cell? ⟨w.heap.size, 0, none⟩ = some (.int .u64 (NS now)) ∧ w'.cell? ⟨w.heap.size, 1, none⟩ = some (.int .i64 (SEC now)) ∧ w'.cell? ⟨w.heap.size, 2, none⟩ = some (.pointer none)) (first | (go_keep; done) | ((try dsimp only); exact ⟨p16, p17, p18, q0, q1, q2⟩))
    ((first | (go_at_call 92; refine (isZero_no c.exp _ HX.out).mono ?_; rintro e w2 ⟨rfl, hb2⟩; have S2 := Lib.hid (S1.out.drew.below hb2); obtain ⟨cc, _⟩ := S2.out.cb.cells; have p16 := cc 16; have p17 := cc 17; have p18 := cc 18; obtain ⟨c2, _, hz2, B2⟩ := kept hb2 (heap_drew B1.out); have q0 := c2 0; have q1 := c2 1; have q2 := c2 2; simp at p16 p17 p18 q0 q1 q2; clear cc c2) | (go_at_call 93; refine (before_yes c.exp now _ HY.out).mono ?_; rintro e w3 ⟨rfl, hb3⟩; have S3 := Lib.hid (S2.out.below hb3); obtain ⟨cc, _⟩ := S3.out.cb.cells; have p16 := cc 16; have p17 := cc 17; have p18 := cc 18; obtain ⟨c3, _, hz3, B3⟩ := kept hb3 B2; have q0 := c3 0; have q1 := c3 1; have q2 := c3 2; simp at p16 p17 p18 q0 q1 q2; clear cc c3)))
  clear p16 p17 p18
  go_wp2_with fail
  refine (newGen_any L r c now _ S3.out.cb S3.out.lok S3.out.ok S3.out.now0 S3.out.now1).mono ?_
  rintro e w4 ⟨rfl, hcb4, hm4⟩
  clear g10 g11 g12 g16 g17 g18 g6 g7 q0 q1 q2
  have EF := Lib.hid (show Evo L r w cr _ _ now _ from ⟨cr, S3.out.withCb hcb4 (CB.newGen_ok S3.out.ok now) hm4, .inl rfl, (((((Mod.refl [L.cb, L.rc, L.bk, L.bd, cr] w).alloc (Obj.cells #[Value.int IntKind.u64 (NS now), Value.int IntKind.i64 (SEC now), Value.pointer none] 118)).drew.trans (Mod.of_below hb2))).trans (Mod.of_below hb3)).trans (hm4.mono (by simp))⟩)
  obtain ⟨crF, sF, kF, mF⟩ := EF.out
  obtain ⟨hcF, _⟩ := sF.cb.cells
  have k10 := hcF 10
  have k11 := hcF 11
  have k12 := hcF 12
  have r6 := sF.cb.rc.cells.1 6
  simp [CB.newGen, RC.clear] at k10 k11 k12 r6
  have SF := Lib.hid sF
  have KF := Lib.hid kF
  have MF := Lib.hid mF
  clear hcF EF sF kF mF
  go_wp2_with fail
  go_quiet (fail)
  go_wp2_with fail
  go_ret3
  exact ⟨rfl, crF, SF.out.drewN _, KF.out, MF.out.drewN _⟩

set_option maxRecDepth 100000 in
set_option maxHeartbeats 2000000 in
theorem cur_openexp (L : Loc) (cr : Nat) (r : Rules) (c : CB) (now : Int) (chs : List (Int × Int)) (w : World) (h : Sys w L cr r c now chs) (hlen : chs.length ≤ 1000000) (hst : c.state = 2) (hy : c.exp < now) :
    Calls Try.prog 76 #[.pointer (some ⟨L.cb, 0, none⟩), .agg #[.int .u64 (NS now), .int .i64 (SEC now), .pointer none]] w fun e w' => e = .returned (.tuple #[.int .i64 (({ c with state := 1 } : CB).newGen now).state, .int .u64 (({ c with state := 1 } : CB).newGen now).gen, .int .u64 (({ c with state := 1 } : CB).newGen now).rc.age]) ∧ Evo L r w cr w' (({ c with state := 1 } : CB).newGen now) now (chs ++ [(2, 1)]) := by
  have HY := Lib.hid hy
  clear hy
  have HS := Lib.hid h
  have HST := Lib.hid hst
  obtain ⟨z1, z2, z3, z4, z5, z6, z7⟩ := h.lts
  obtain ⟨hc, hf⟩ := h.cb.cells
  have g10 := hc 10
  have g11 := hc 11
  have g12 := hc 12
  have g16 := hc 16
  have g17 := hc 17
  have g18 := hc 18
  simp at g10 g11 g12 g16 g17 g18
  rw [hst] at g10
  have g7 := h.cb.rc.cells.1 7
  have g6 := h.cb.rc.cells.1 6
  simp at g6 g7
  have S1 := Lib.hid (h.alloc (Obj.cells #[Value.int IntKind.u64 (NS now), Value.int IntKind.i64 (SEC now), Value.pointer none] 118))
  have B1 := Lib.hid (heap_alloc_new w (Obj.cells #[Value.int IntKind.u64 (NS now), Value.int IntKind.i64 (SEC now), Value.pointer none] 118))
  have y1 : L.cb ≠ w.heap.size := by omega
  have y2 : L.rc ≠ w.heap.size := by omega
  have y3 := y1.symm
  have y4 := y2.symm
  clear h hst hc hf
  go_enter Try.func76, Try.ntmps76
  go_wp2_with fail
  go_region_held3 (fun w' => w'.cell? ⟨L.cb, 16, none⟩ = some (.int .u64 (NS c.exp)) ∧ w'.cell? ⟨L.cb, 17, none⟩ = some (.int .i64 (SEC c.exp)) ∧ w'.cell? ⟨L.cb, 18, none⟩ = some (.pointer none) ∧ w'.cell? ⟨w.heap.size, 0, none⟩ = some (.int .u64 (NS now)) ∧ w'.cell? ⟨w.heap.size, 1, none⟩ = some (.int .i64 (SEC now)) ∧ w'.cell? ⟨w.heap.size, 2, none⟩ = some (.pointer none)) (first | (go_keep; done) | ((try dsimp only); exact ⟨p16, p17, p18, q0, q1, q2⟩))
    ((first | (go_at_call 93; refine (before_yes c.exp now _ HY.out).mono ?_; rintro e w2 ⟨rfl, hb2⟩; have S2 := Lib.hid (S1.out.drew.below hb2); obtain ⟨cc, _⟩ := S2.out.cb.cells; have p16 := cc 16; have p17 := cc 17; have p18 := cc 18; obtain ⟨c2, _, hz2, B2⟩ := kept hb2 (heap_drew B1.out); have q0 := c2 0; have q1 := c2 1; have q2 := c2 2; simp at p16 p17 p18 q0 q1 q2; clear cc c2)))
  clear p16 p17 p18
  go_wp2_with fail
  refine (setState_any L cr r c now chs 1 _ S2.out hlen (by omega) (by omega) (by rw [HST.out]; omega)).mono ?_
  rintro e w4 ⟨rfl, hev⟩
  clear g10 g11 g12 g16 g17 g18 g6 g7 q0 q1 q2
  rw [HST.out] at hev
  have EF := Lib.hid (show Evo L r w cr _ _ now _ from Evo.after ((((Mod.refl [L.cb, L.rc, L.bk, L.bd, cr] w).alloc (Obj.cells #[Value.int IntKind.u64 (NS now), Value.int IntKind.i64 (SEC now), Value.pointer none] 118)).drew.trans (Mod.of_below hb2))) hev)
  obtain ⟨crF, sF, kF, mF⟩ := EF.out
  obtain ⟨hcF, _⟩ := sF.cb.cells
  have k10 := hcF 10
  have k11 := hcF 11
  have k12 := hcF 12
  have r6 := sF.cb.rc.cells.1 6
  simp [CB.newGen, RC.clear] at k10 k11 k12 r6
  have SF := Lib.hid sF
  have KF := Lib.hid kF
  have MF := Lib.hid mF
  clear hcF EF sF kF mF
  go_wp2_with fail
  go_quiet (fail)
  go_wp2_with fail
  go_ret3
  exact ⟨rfl, crF, SF.out.drewN _, KF.out, MF.out.drewN _⟩

set_option maxRecDepth 100000 in
set_option maxHeartbeats 2000000 in
theorem cur_openlive (L : Loc) (cr : Nat) (r : Rules) (c : CB) (now : Int) (chs : List (Int × Int)) (w : World) (h : Sys w L cr r c now chs) (_hlen : chs.length ≤ 1000000) (hst : c.state = 2) (hy : now ≤ c.exp) :
    Calls Try.prog 76 #[.pointer (some ⟨L.cb, 0, none⟩), .agg #[.int .u64 (NS now), .int .i64 (SEC now), .pointer none]] w fun e w' => e = .returned (.tuple #[.int .i64 (c).state, .int .u64 (c).gen, .int .u64 (c).rc.age]) ∧ Evo L r w cr w' (c) now (chs) := by
  have HY := Lib.hid hy
  clear hy
  have HS := Lib.hid h
  have HST := Lib.hid hst
  obtain ⟨z1, z2, z3, z4, z5, z6, z7⟩ := h.lts
  obtain ⟨hc, hf⟩ := h.cb.cells
  have g10 := hc 10
  have g11 := hc 11
  have g12 := hc 12
  have g16 := hc 16
  have g17 := hc 17
  have g18 := hc 18
  simp at g10 g11 g12 g16 g17 g18
  rw [hst] at g10
  have g7 := h.cb.rc.cells.1 7
  have g6 := h.cb.rc.cells.1 6
  simp at g6 g7
  have S1 := Lib.hid (h.alloc (Obj.cells #[Value.int IntKind.u64 (NS now), Value.int IntKind.i64 (SEC now), Value.pointer none] 118))
  have B1 := Lib.hid (heap_alloc_new w (Obj.cells #[Value.int IntKind.u64 (NS now), Value.int IntKind.i64 (SEC now), Value.pointer none] 118))
  have y1 : L.cb ≠ w.heap.size := by omega
  have y2 : L.rc ≠ w.heap.size := by omega
  have y3 := y1.symm
  have y4 := y2.symm
  clear h hst hc hf
  go_enter Try.func76, Try.ntmps76
  go_wp2_with fail
  go_region_held3 (fun w' => w'.cell? ⟨L.cb, 16, none⟩ = some (.int .u64 (NS c.exp)) ∧ w'.cell? ⟨L.cb, 17, none⟩ = some (.int .i64 (SEC c.exp)) ∧ w'.cell? ⟨L.cb, 18, none⟩ = some (.pointer none) ∧ w'.cell? ⟨w.heap.size, 0, none⟩ = some (.int .u64 (NS now)) ∧ w'.cell? ⟨w.heap.size, 1, none⟩ = some (.int .i64 (SEC now)) ∧ w'.cell? ⟨w.heap.size, 2, none⟩ = some (.pointer none)) (first | (go_keep; done) | ((try dsimp only); exact ⟨p16, p17, p18, q0, q1, q2⟩))
    ((first | (go_at_call 93; refine (before_no c.exp now _ (by have := HY.out; omega)).mono ?_; rintro e w2 ⟨rfl, hb2⟩; have S2 := Lib.hid (S1.out.drew.below hb2); obtain ⟨cc, _⟩ := S2.out.cb.cells; have p16 := cc 16; have p17 := cc 17; have p18 := cc 18; obtain ⟨c2, _, hz2, B2⟩ := kept hb2 (heap_drew B1.out); have q0 := c2 0; have q1 := c2 1; have q2 := c2 2; simp at p16 p17 p18 q0 q1 q2; clear cc c2)))
  clear p16 p17 p18 q0 q1 q2
  clear g10 g11 g12 g16 g17 g18 g6 g7
  have EF := Lib.hid (show Evo L r w cr _ _ now _ from ⟨cr, S2.out, .inl rfl, ((((Mod.refl [L.cb, L.rc, L.bk, L.bd, cr] w).alloc (Obj.cells #[Value.int IntKind.u64 (NS now), Value.int IntKind.i64 (SEC now), Value.pointer none] 118)).drew.trans (Mod.of_below hb2)))⟩)
  obtain ⟨crF, sF, kF, mF⟩ := EF.out
  obtain ⟨hcF, _⟩ := sF.cb.cells
  have k10 := hcF 10
  have k11 := hcF 11
  have k12 := hcF 12
  have r6 := sF.cb.rc.cells.1 6
  simp at k10 k11 k12 r6
  have SF := Lib.hid sF
  have KF := Lib.hid kF
  have MF := Lib.hid mF
  clear hcF EF sF kF mF
  go_wp2_with fail
  go_quiet (fail)
  go_wp2_with fail
  go_ret3
  exact ⟨rfl, crF, SF.out.drewN _, KF.out, MF.out.drewN _⟩

set_option maxRecDepth 100000 in
set_option maxHeartbeats 2000000 in
theorem cur_half (L : Loc) (cr : Nat) (r : Rules) (c : CB) (now : Int) (chs : List (Int × Int)) (w : World) (h : Sys w L cr r c now chs) (_hlen : chs.length ≤ 1000000) (hst : c.state = 1) :
    Calls Try.prog 76 #[.pointer (some ⟨L.cb, 0, none⟩), .agg #[.int .u64 (NS now), .int .i64 (SEC now), .pointer none]] w fun e w' => e = .returned (.tuple #[.int .i64 (c).state, .int .u64 (c).gen, .int .u64 (c).rc.age]) ∧ Evo L r w cr w' (c) now (chs) := by
  have HS := Lib.hid h
  have HST := Lib.hid hst
  obtain ⟨z1, z2, z3, z4, z5, z6, z7⟩ := h.lts
  obtain ⟨hc, hf⟩ := h.cb.cells
  have g10 := hc 10
  have g11 := hc 11
  have g12 := hc 12
  have g16 := hc 16
  have g17 := hc 17
  have g18 := hc 18
  simp at g10 g11 g12 g16 g17 g18
  rw [hst] at g10
  have g7 := h.cb.rc.cells.1 7
  have g6 := h.cb.rc.cells.1 6
  simp at g6 g7
  have S1 := Lib.hid (h.alloc (Obj.cells #[Value.int IntKind.u64 (NS now), Value.int IntKind.i64 (SEC now), Value.pointer none] 118))
  have B1 := Lib.hid (heap_alloc_new w (Obj.cells #[Value.int IntKind.u64 (NS now), Value.int IntKind.i64 (SEC now), Value.pointer none] 118))
  have y1 : L.cb ≠ w.heap.size := by omega
  have y2 : L.rc ≠ w.heap.size := by omega
  have y3 := y1.symm
  have y4 := y2.symm
  clear h hst hc hf
  go_enter Try.func76, Try.ntmps76
  go_wp2_with fail
  clear g10 g11 g12 g16 g17 g18 g6 g7
  have EF := Lib.hid (show Evo L r w cr _ _ now _ from ⟨cr, S1.out, .inl rfl, (Mod.refl [L.cb, L.rc, L.bk, L.bd, cr] w).alloc _⟩)
  obtain ⟨crF, sF, kF, mF⟩ := EF.out
  obtain ⟨hcF, _⟩ := sF.cb.cells
  have k10 := hcF 10
  have k11 := hcF 11
  have k12 := hcF 12
  have r6 := sF.cb.rc.cells.1 6
  simp at k10 k11 k12 r6
  have SF := Lib.hid sF
  have KF := Lib.hid kF
  have MF := Lib.hid mF
  clear hcF EF sF kF mF
  go_wp2_with fail
  go_quiet (fail)
  go_wp2_with fail
  go_ret3
  exact ⟨rfl, crF, SF.out.drewN _, KF.out, MF.out.drewN _⟩

end Go.Proofs.Ytcjklacfoldaoaa
