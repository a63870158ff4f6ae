/- Contracts of the rolling counts: what each method makes of them. Conditions: two blocks hold them, at least one bucket. -/
import Derived.Test.YtcjklacfoldaoaaCnt
import Derived.Deep.RegionHeld3
import Derived.Deep.DrawnRows
namespace Go.Proofs.Ytcjklacfoldaoaa
open Go.RowKit
attribute [local go_sem ↓] Go.wp_at_zero Go.wp_at_succ

/-- What is known of rolling counts: at least one bucket and not too many, an age that is no negative number. -/
structure RC.Ok (c : RC) : Prop where
  pos : 0 < c.bs.length
  few : c.bs.length ≤ 1000000
  age0 : 0 ≤ c.age
  age1 : c.age ≤ 9000000000000000000

theorem age_slot {n : Nat} (hn : 0 < n) {a : Int} (_ha : 0 ≤ a) : ∃ j : Nat, a % (n : Int) = (j : Int) ∧ j < n := by
  have h1 := Int.emod_nonneg a (b := n) (by omega)
  have h2 := Int.emod_lt_of_pos a (b := n) (by omega)
  exact ⟨(a % n).toNat, by omega, by omega⟩

set_option maxHeartbeats 400000 in
theorem rcIndex_any (rc bk : Nat) (c : RC) (a : Int) (w : World) (h : RCat w rc bk c) (ok : c.Ok) (ha : 0 ≤ a) (ha2 : a ≤ 9000000000000000000) (j : Nat) (hj : a % (c.bs.length : Int) = (j : Int)) :
    Calls Try.prog 109 #[.pointer (some ⟨rc, 0, none⟩), .int .u64 a] w fun e w' => e = .returned (.int .u64 (j : Int)) ∧ w = w' := by
  obtain ⟨hc, hf⟩ := h.cells
  have hp := ok.pos
  have hq := ok.few
  clear h ok
  generalize c.bs.length = n at *
  have hne : ((n : Int) == 0) = false := by simp; omega
  go_enter Try.func109, Try.ntmps109
  go_wp2
  go_ret
  exact ⟨by rw [← hj]; rfl, rfl⟩

set_option maxHeartbeats 400000 in
theorem rcCurrent_any (rc bk : Nat) (c : RC) (w : World) (h : RCat w rc bk c) (ok : c.Ok) (j : Nat) (hj : c.age % (c.bs.length : Int) = (j : Int)) :
    Calls Try.prog 98 #[.pointer (some ⟨rc, 0, none⟩)] w fun e w' => e = .returned (.int .u64 (j : Int)) ∧ w = w' := by
  obtain ⟨hc, hf⟩ := h.cells
  have H := Lib.hid h
  have OK := Lib.hid ok
  have HJ := Lib.hid hj
  clear h ok hj
  go_enter Try.func98, Try.ntmps98
  go_wp2_with fail
  refine (rcIndex_any rc bk c c.age _ H.out OK.out OK.out.age0 OK.out.age1 j HJ.out).mono ?_
  rintro e w' ⟨rfl, rfl⟩
  go_wp2_with fail
  go_ret
  exact ⟨rfl, rfl⟩

set_option maxHeartbeats 1000000 in
theorem rcReq_any (rc bk : Nat) (c : RC) (w : World) (h : RCat w rc bk c) (ok : c.Ok) (hne : rc ≠ bk) :
    Calls Try.prog 84 #[.pointer (some ⟨rc, 0, none⟩)] w fun e w' => e = .returned (.tuple #[]) ∧ RCat w' rc bk c.req ∧ Mod [rc, bk] w w' := by
  obtain ⟨hc, hf⟩ := h.cells
  obtain ⟨j, hj, hjl⟩ := age_slot ok.pos ok.age0
  obtain ⟨hb, hbf⟩ := h.buck hjl
  have b0 := hb 0 (by omega)
  simp only [Cnt.arr, Nat.add_zero, List.getElem?_cons_zero] at b0
  have f0 := hbf (j * 6)
  have H := Lib.hid h
  have OK := Lib.hid ok
  have HJ := Lib.hid hj
  have i1 : (0 : Int) ≤ (j : Int) := by omega
  have i2 : (j : Int) < (c.bs.length : Int) := by omega
  have HC := Lib.hid hc
  have HF := Lib.hid hf
  have g0 := hc 0
  have k0 := hf 0
  simp at g0
  clear h ok hj hb hbf hc hf
  go_enter Try.func84, Try.ntmps84
  go_wp2_with fail
  refine (cntReq_any rc 0 c.tot.r _ g0 k0).mono ?_
  rintro e w' ⟨rfl, rfl⟩
  have H1 := Lib.hid (H.out.setTot hne (i := 0) (by omega) (.int .u32 (w32 (c.tot.r + 1))) c.tot.req rfl)
  have M1 := Lib.hid (show Mod [rc, bk] w (w.setCell ⟨rc, 0, none⟩ (.int .u32 (w32 (c.tot.r + 1)))) from (Mod.refl _ _).setCell _ _ (by simp))
  generalize w.setCell ⟨rc, 0, none⟩ (.int .u32 (w32 (c.tot.r + 1))) = W1 at *
  clear b0 f0 g0 k0 HC HF
  obtain ⟨hc, hf⟩ := H1.out.cells
  obtain ⟨hb, hbf⟩ := H1.out.buck hjl
  have b0 := hb 0 (by omega)
  simp only [Cnt.arr, Nat.add_zero, List.getElem?_cons_zero] at b0
  have f0 := hbf (j * 6)
  have g7 := hc 7
  simp at g7
  clear hb hbf hc hf
  have hne' : bk ≠ rc := Ne.symm hne
  go_wp2_with fail
  go_region_held3 (fun w' => w'.cell? ⟨rc, 7, none⟩ = some (.slice (some ⟨bk, 0, none⟩) c.bs.length c.bs.length)) (go_keep)
    ((first | (go_at_call 98; refine (rcCurrent_any rc bk { c with tot := c.tot.req } _ (by exact H1.out) ⟨OK.out.pos, OK.out.few, OK.out.age0, OK.out.age1⟩ j HJ.out).mono ?_; rintro e w1 ⟨rfl, rfl⟩) | (go_at_call 97; refine (cntReq_any bk (j * 6) _ _ (by exact b0) (by exact f0)).mono ?_; rintro e w1 ⟨rfl, rfl⟩)))
  have H2 := Lib.hid (H1.out.setBuck hne (i := 0) hjl (by omega) (.int .u32 (w32 (c.bs[j].r + 1))) Cnt.req rfl)
  have M2 := Lib.hid (M1.out.setCell ⟨bk, j * 6, none⟩ (.int .u32 (w32 (c.bs[j].r + 1))) (by simp))
  go_end0
  refine ⟨rfl, ?_, M2.out.drew⟩
  have e : c.req = { tot := c.tot.req, age := c.age, bs := c.bs.modify j Cnt.req } := by
    unfold RC.req; rw [HJ.out]; rfl
  rw [e]; exact H2.out

end Go.Proofs.Ytcjklacfoldaoaa
