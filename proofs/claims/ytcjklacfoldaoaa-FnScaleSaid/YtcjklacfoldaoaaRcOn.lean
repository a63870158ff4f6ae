/- Contracts of onExclusion, onSuccess, onFailure of the rolling counts. Conditions: two blocks hold them, at least one bucket. -/
import Derived.Test.YtcjklacfoldaoaaRc
namespace Go.Proofs.Ytcjklacfoldaoaa
open Go.RowKit
attribute [local go_sem ↓] Go.wp_at_zero Go.wp_at_succ

set_option maxHeartbeats 1000000 in
theorem rcExcl_hit (rc bk : Nat) (c : RC) (a : Int) (w : World) (h : RCat w rc bk c) (ok : c.Ok) (hne : rc ≠ bk) (ha : 0 ≤ a) (hac : a ≤ c.age) (han : c.age - a < c.bs.length) :
    Calls Try.prog 99 #[.pointer (some ⟨rc, 0, none⟩), .int .u64 a] w fun e w' => e = .returned (.tuple #[]) ∧ RCat w' rc bk (c.on Cnt.excl a) ∧ Mod [rc, bk] w w' := by
  obtain ⟨hc, hf⟩ := h.cells
  obtain ⟨j, hj, hjl⟩ := age_slot ok.pos ha
  have H := Lib.hid h
  have OK := Lib.hid ok
  have HJ := Lib.hid hj
  have i1 : (0 : Int) ≤ (j : Int) := by omega
  have i2 : (j : Int) < (c.bs.length : Int) := by omega
  have i3 := ok.few
  have i4 := ok.age1
  have HC := Lib.hid hc
  have HF := Lib.hid hf
  have g3 := hc 3
  have k3 := hf 3
  have g6 := hc 6
  have g7 := hc 7
  simp at g3 g6 g7
  clear h ok hj hc hf
  go_enter Try.func99, Try.ntmps99
  go_wp2_with fail
  go_quiet (fail)
  have H0 := Lib.hid (show RCat (w.drewN nq) rc bk c from H.out)
  have M0 := Lib.hid (show Mod [rc, bk] w (w.drewN nq) from (Mod.refl [rc, bk] w).drewN _)
  clear g3 k3 g6 g7 H
  generalize w.drewN nq = W0 at *
  obtain ⟨hc, hf⟩ := H0.out.cells
  have g3 := hc 3
  have k3 := hf 3
  simp at g3
  clear hc hf
  go_wp2_with fail
  refine (cntExcl_any rc 0 _ _ (by exact g3) (by exact k3)).mono ?_
  rintro e w' ⟨rfl, rfl⟩
  have T0 := H0.out.setTot hne (i := 3) (by omega) (.int .u32 (w32 (c.tot.x + 1))) { c.tot with x := w32 (c.tot.x + 1) } rfl
  have M1 := Lib.hid (show Mod [rc, bk] w (W0.setCell ⟨rc, 3, none⟩ (.int .u32 (w32 (c.tot.x + 1)))) from (M0.out).setCell _ _ (by simp))
  have H1 := Lib.hid T0
  clear T0
  simp only [Nat.zero_add]
  simp only [] at H1 M1
  clear g3 k3
  generalize (W0.setCell ⟨rc, 3, none⟩ (.int .u32 (w32 (c.tot.x + 1)))) = W1 at *
  obtain ⟨hc, hf⟩ := H1.out.cells
  obtain ⟨hb, hbf⟩ := H1.out.buck hjl
  have b3 := hb 3 (by omega)
  have f3 := hbf (j * 6 + 3)
  have g7 := hc 7
  simp [Cnt.arr] at b3
  simp at g7
  clear hb hbf hc hf
  have hne' : bk ≠ rc := Ne.symm hne
  go_wp2_with fail
  go_region_held3 (fun w' => w'.cell? ⟨rc, 7, none⟩ = some (.slice (some ⟨bk, 0, none⟩) c.bs.length c.bs.length)) (go_keep)
    ((first | (go_at_call 109; refine (rcIndex_any rc bk { c with tot := { c.tot with x := w32 (c.tot.x + 1) } } a _ (by exact H1.out) ⟨OK.out.pos, OK.out.few, OK.out.age0, OK.out.age1⟩ ha (by omega) j HJ.out).mono ?_; rintro e w1 ⟨rfl, rfl⟩) | (go_at_call 110; refine (cntExcl_any bk (j * 6) _ _ (by exact b3) (by exact f3)).mono ?_; rintro e w1 ⟨rfl, rfl⟩)))
  have B0 := H1.out.setBuck hne (j := j) (i := 3) (by simpa using hjl) (by omega) (.int .u32 (w32 (c.bs[j].x + 1))) (fun c : Cnt => { c with x := w32 (c.x + 1) }) (by simp [Cnt.arr])
  have M2 := (M1.out).setCell ⟨bk, j * 6 + 3, none⟩ (.int .u32 (w32 (c.bs[j].x + 1))) (by simp)
  go_end0
  refine ⟨rfl, ?_, M2.drew⟩
  have e : c.on Cnt.excl a = { tot := Cnt.excl c.tot, age := c.age, bs := c.bs.modify j Cnt.excl } := by
    unfold RC.on; rw [if_neg (by omega), if_pos han, HJ.out]; rfl
  rw [e]
  have hB := B0
  simp only [] at hB
  exact hB

set_option maxHeartbeats 1000000 in
theorem rcSucc_hit (rc bk : Nat) (c : RC) (a : Int) (w : World) (h : RCat w rc bk c) (ok : c.Ok) (hne : rc ≠ bk) (ha : 0 ≤ a) (hac : a ≤ c.age) (han : c.age - a < c.bs.length) :
    Calls Try.prog 100 #[.pointer (some ⟨rc, 0, none⟩), .int .u64 a] w fun e w' => e = .returned (.tuple #[]) ∧ RCat w' rc bk (c.on Cnt.succ a) ∧ Mod [rc, bk] w w' := by
  obtain ⟨hc, hf⟩ := h.cells
  obtain ⟨j, hj, hjl⟩ := age_slot ok.pos ha
  have H := Lib.hid h
  have OK := Lib.hid ok
  have HJ := Lib.hid hj
  have i1 : (0 : Int) ≤ (j : Int) := by omega
  have i2 : (j : Int) < (c.bs.length : Int) := by omega
  have i3 := ok.few
  have i4 := ok.age1
  have HC := Lib.hid hc
  have HF := Lib.hid hf
  have g1 := hc 1
  have k1 := hf 1
  have g4 := hc 4
  have k4 := hf 4
  have g5 := hc 5
  have k5 := hf 5
  have g6 := hc 6
  have g7 := hc 7
  simp at g1 g4 g5 g6 g7
  clear h ok hj hc hf
  go_enter Try.func100, Try.ntmps100
  go_wp2_with fail
  go_quiet (fail)
  have H0 := Lib.hid (show RCat (w.drewN nq) rc bk c from H.out)
  have M0 := Lib.hid (show Mod [rc, bk] w (w.drewN nq) from (Mod.refl [rc, bk] w).drewN _)
  clear g1 g4 g5 k1 k4 k5 g6 g7 H
  generalize w.drewN nq = W0 at *
  obtain ⟨hc, hf⟩ := H0.out.cells
  have g1 := hc 1
  have k1 := hf 1
  have g4 := hc 4
  have k4 := hf 4
  have g5 := hc 5
  have k5 := hf 5
  simp at g1 g4 g5
  clear hc hf
  go_wp2_with fail
  refine (cntSucc_any rc 0 _ _ _ _ (by exact g1) (by exact g4) (by exact g5) (by exact k1) (by exact k4) (by exact k5)).mono ?_
  rintro e w' ⟨rfl, rfl⟩
  have T0 := H0.out.setTot hne (i := 1) (by omega) (.int .u32 (w32 (c.tot.s + 1))) { c.tot with s := w32 (c.tot.s + 1) } rfl
  have T1 := T0.setTot hne (i := 4) (by omega) (.int .u32 (w32 (c.tot.g + 1))) { c.tot with s := w32 (c.tot.s + 1), g := w32 (c.tot.g + 1) } rfl
  have T2 := T1.setTot hne (i := 5) (by omega) (.int .u32 0) { c.tot with s := w32 (c.tot.s + 1), g := w32 (c.tot.g + 1), h := 0 } rfl
  have M1 := Lib.hid (show Mod [rc, bk] w (((W0.setCell ⟨rc, 1, none⟩ (.int .u32 (w32 (c.tot.s + 1)))).setCell ⟨rc, 4, none⟩ (.int .u32 (w32 (c.tot.g + 1)))).setCell ⟨rc, 5, none⟩ (.int .u32 0)) from (((M0.out).setCell _ _ (by simp)).setCell _ _ (by simp)).setCell _ _ (by simp))
  have H1 := Lib.hid T2
  clear T0 T1 T2
  simp only [Nat.zero_add]
  simp only [] at H1 M1
  clear g1 g4 g5 k1 k4 k5
  generalize (((W0.setCell ⟨rc, 1, none⟩ (.int .u32 (w32 (c.tot.s + 1)))).setCell ⟨rc, 4, none⟩ (.int .u32 (w32 (c.tot.g + 1)))).setCell ⟨rc, 5, none⟩ (.int .u32 0)) = W1 at *
  obtain ⟨hc, hf⟩ := H1.out.cells
  obtain ⟨hb, hbf⟩ := H1.out.buck hjl
  have b1 := hb 1 (by omega)
  have f1 := hbf (j * 6 + 1)
  have b4 := hb 4 (by omega)
  have f4 := hbf (j * 6 + 4)
  have b5 := hb 5 (by omega)
  have f5 := hbf (j * 6 + 5)
  have g7 := hc 7
  simp [Cnt.arr] at b1 b4 b5
  simp at g7
  clear hb hbf hc hf
  have hne' : bk ≠ rc := Ne.symm hne
  go_wp2_with fail
  go_region_held3 (fun w' => w'.cell? ⟨rc, 7, none⟩ = some (.slice (some ⟨bk, 0, none⟩) c.bs.length c.bs.length)) (go_keep)
    ((first | (go_at_call 109; refine (rcIndex_any rc bk { c with tot := { c.tot with s := w32 (c.tot.s + 1), g := w32 (c.tot.g + 1), h := 0 } } a _ (by exact H1.out) ⟨OK.out.pos, OK.out.few, OK.out.age0, OK.out.age1⟩ ha (by omega) j HJ.out).mono ?_; rintro e w1 ⟨rfl, rfl⟩) | (go_at_call 111; refine (cntSucc_any bk (j * 6) _ _ _ _ (by exact b1) (by exact b4) (by exact b5) (by exact f1) (by exact f4) (by exact f5)).mono ?_; rintro e w1 ⟨rfl, rfl⟩)))
  have B0 := H1.out.setBuck hne (j := j) (i := 1) (by simpa using hjl) (by omega) (.int .u32 (w32 (c.bs[j].s + 1))) (fun c : Cnt => { c with s := w32 (c.s + 1) }) (by simp [Cnt.arr])
  have B1 := B0.setBuck hne (j := j) (i := 4) (by simpa using hjl) (by omega) (.int .u32 (w32 (c.bs[j].g + 1))) (fun c : Cnt => { c with g := w32 (c.g + 1) }) (by simp [Cnt.arr])
  have B2 := B1.setBuck hne (j := j) (i := 5) (by simpa using hjl) (by omega) (.int .u32 0) (fun c : Cnt => { c with h := 0 }) (by simp [Cnt.arr])
  have M2 := (((M1.out).setCell ⟨bk, j * 6 + 1, none⟩ (.int .u32 (w32 (c.bs[j].s + 1))) (by simp)).setCell ⟨bk, j * 6 + 4, none⟩ (.int .u32 (w32 (c.bs[j].g + 1))) (by simp)).setCell ⟨bk, j * 6 + 5, none⟩ (.int .u32 0) (by simp)
  go_end0
  refine ⟨rfl, ?_, M2.drew⟩
  have e : c.on Cnt.succ a = { tot := Cnt.succ c.tot, age := c.age, bs := c.bs.modify j Cnt.succ } := by
    unfold RC.on; rw [if_neg (by omega), if_pos han, HJ.out]; rfl
  rw [e]
  have hB := B2
  simp only [modify_comp] at hB
  exact hB

set_option maxHeartbeats 1000000 in
theorem rcFail_hit (rc bk : Nat) (c : RC) (a : Int) (w : World) (h : RCat w rc bk c) (ok : c.Ok) (hne : rc ≠ bk) (ha : 0 ≤ a) (hac : a ≤ c.age) (han : c.age - a < c.bs.length) :
    Calls Try.prog 101 #[.pointer (some ⟨rc, 0, none⟩), .int .u64 a] w fun e w' => e = .returned (.tuple #[]) ∧ RCat w' rc bk (c.on Cnt.fail a) ∧ Mod [rc, bk] w w' := by
  obtain ⟨hc, hf⟩ := h.cells
  obtain ⟨j, hj, hjl⟩ := age_slot ok.pos ha
  have H := Lib.hid h
  have OK := Lib.hid ok
  have HJ := Lib.hid hj
  have i1 : (0 : Int) ≤ (j : Int) := by omega
  have i2 : (j : Int) < (c.bs.length : Int) := by omega
  have i3 := ok.few
  have i4 := ok.age1
  have HC := Lib.hid hc
  have HF := Lib.hid hf
  have g2 := hc 2
  have k2 := hf 2
  have g5 := hc 5
  have k5 := hf 5
  have g4 := hc 4
  have k4 := hf 4
  have g6 := hc 6
  have g7 := hc 7
  simp at g2 g5 g4 g6 g7
  clear h ok hj hc hf
  go_enter Try.func101, Try.ntmps101
  go_wp2_with fail
  go_quiet (fail)
  have H0 := Lib.hid (show RCat (w.drewN nq) rc bk c from H.out)
  have M0 := Lib.hid (show Mod [rc, bk] w (w.drewN nq) from (Mod.refl [rc, bk] w).drewN _)
  clear g2 g5 g4 k2 k5 k4 g6 g7 H
  generalize w.drewN nq = W0 at *
  obtain ⟨hc, hf⟩ := H0.out.cells
  have g2 := hc 2
  have k2 := hf 2
  have g5 := hc 5
  have k5 := hf 5
  have g4 := hc 4
  have k4 := hf 4
  simp at g2 g5 g4
  clear hc hf
  go_wp2_with fail
  refine (cntFail_any rc 0 _ _ _ _ (by exact g2) (by exact g5) (by exact g4) (by exact k2) (by exact k5) (by exact k4)).mono ?_
  rintro e w' ⟨rfl, rfl⟩
  have T0 := H0.out.setTot hne (i := 2) (by omega) (.int .u32 (w32 (c.tot.f + 1))) { c.tot with f := w32 (c.tot.f + 1) } rfl
  have T1 := T0.setTot hne (i := 5) (by omega) (.int .u32 (w32 (c.tot.h + 1))) { c.tot with f := w32 (c.tot.f + 1), h := w32 (c.tot.h + 1) } rfl
  have T2 := T1.setTot hne (i := 4) (by omega) (.int .u32 0) { c.tot with f := w32 (c.tot.f + 1), h := w32 (c.tot.h + 1), g := 0 } rfl
  have M1 := Lib.hid (show Mod [rc, bk] w (((W0.setCell ⟨rc, 2, none⟩ (.int .u32 (w32 (c.tot.f + 1)))).setCell ⟨rc, 5, none⟩ (.int .u32 (w32 (c.tot.h + 1)))).setCell ⟨rc, 4, none⟩ (.int .u32 0)) from (((M0.out).setCell _ _ (by simp)).setCell _ _ (by simp)).setCell _ _ (by simp))
  have H1 := Lib.hid T2
  clear T0 T1 T2
  simp only [Nat.zero_add]
  simp only [] at H1 M1
  clear g2 g5 g4 k2 k5 k4
  generalize (((W0.setCell ⟨rc, 2, none⟩ (.int .u32 (w32 (c.tot.f + 1)))).setCell ⟨rc, 5, none⟩ (.int .u32 (w32 (c.tot.h + 1)))).setCell ⟨rc, 4, none⟩ (.int .u32 0)) = W1 at *
  obtain ⟨hc, hf⟩ := H1.out.cells
  obtain ⟨hb, hbf⟩ := H1.out.buck hjl
  have b2 := hb 2 (by omega)
  have f2 := hbf (j * 6 + 2)
  have b5 := hb 5 (by omega)
  have f5 := hbf (j * 6 + 5)
  have b4 := hb 4 (by omega)
  have f4 := hbf (j * 6 + 4)
  have g7 := hc 7
  simp [Cnt.arr] at b2 b5 b4
  simp at g7
  clear hb hbf hc hf
  have hne' : bk ≠ rc := Ne.symm hne
  go_wp2_with fail
  go_region_held3 (fun w' => w'.cell? ⟨rc, 7, none⟩ = some (.slice (some ⟨bk, 0, none⟩) c.bs.length c.bs.length)) (go_keep)
    ((first | (go_at_call 109; refine (rcIndex_any rc bk { c with tot := { c.tot with f := w32 (c.tot.f + 1), h := w32 (c.tot.h + 1), g := 0 } } a _ (by exact H1.out) ⟨OK.out.pos, OK.out.few, OK.out.age0, OK.out.age1⟩ ha (by omega) j HJ.out).mono ?_; rintro e w1 ⟨rfl, rfl⟩) | (go_at_call 112; refine (cntFail_any bk (j * 6) _ _ _ _ (by exact b2) (by exact b5) (by exact b4) (by exact f2) (by exact f5) (by exact f4)).mono ?_; rintro e w1 ⟨rfl, rfl⟩)))
  have B0 := H1.out.setBuck hne (j := j) (i := 2) (by simpa using hjl) (by omega) (.int .u32 (w32 (c.bs[j].f + 1))) (fun c : Cnt => { c with f := w32 (c.f + 1) }) (by simp [Cnt.arr])
  have B1 := B0.setBuck hne (j := j) (i := 5) (by simpa using hjl) (by omega) (.int .u32 (w32 (c.bs[j].h + 1))) (fun c : Cnt => { c with h := w32 (c.h + 1) }) (by simp [Cnt.arr])
  have B2 := B1.setBuck hne (j := j) (i := 4) (by simpa using hjl) (by omega) (.int .u32 0) (fun c : Cnt => { c with g := 0 }) (by simp [Cnt.arr])
  have M2 := (((M1.out).setCell ⟨bk, j * 6 + 2, none⟩ (.int .u32 (w32 (c.bs[j].f + 1))) (by simp)).setCell ⟨bk, j * 6 + 5, none⟩ (.int .u32 (w32 (c.bs[j].h + 1))) (by simp)).setCell ⟨bk, j * 6 + 4, none⟩ (.int .u32 0) (by simp)
  go_end0
  refine ⟨rfl, ?_, M2.drew⟩
  have e : c.on Cnt.fail a = { tot := Cnt.fail c.tot, age := c.age, bs := c.bs.modify j Cnt.fail } := by
    unfold RC.on; rw [if_neg (by omega), if_pos han, HJ.out]; rfl
  rw [e]
  have hB := B2
  simp only [modify_comp] at hB
  exact hB

end Go.Proofs.Ytcjklacfoldaoaa
