/- Contract of clear of the rolling counts. Conditions: two blocks hold them, at least one bucket. -/
import Derived.Test.YtcjklacfoldaoaaRc
namespace Go.Proofs.Ytcjklacfoldaoaa
open Go.RowKit

theorem zero_step (bs : List Cnt) (k : Nat) (hk : k < bs.length) : (List.replicate k Cnt.zero ++ bs.drop k).modify k (fun _ => Cnt.zero) = List.replicate (k + 1) Cnt.zero ++ bs.drop (k + 1) := by
  rw [List.drop_eq_getElem_cons hk]
  apply List.ext_getElem?
  intro i
  simp only [List.getElem?_modify, List.getElem?_append, List.length_replicate, List.getElem?_replicate]
  rcases Nat.lt_trichotomy i k with h | h | h
  · have h2 : k ≠ i := by omega
    simp [h, Nat.lt_succ_of_lt h]
  · subst h; simp; exact ⟨_, List.getElem?_eq_getElem hk⟩
  · have h1 : ¬ i < k := by omega
    have h2 : ¬ i < k + 1 := by omega
    have h3 : k ≠ i := by omega
    obtain ⟨m, rfl⟩ : ∃ m, i = k + 1 + m := ⟨i - k - 1, by omega⟩
    simp only [h1, h2, h3, if_false]
    rw [show k + 1 + m - k = m + 1 by omega, show k + 1 + m - (k + 1) = m by omega]
    simp
    congr 1; omega

set_option maxHeartbeats 1000000 in
theorem rcClear_any (rc bk : Nat) (c : RC) (w : World) (h : RCat w rc bk c) (hne : rc ≠ bk) (hlen : c.bs.length ≤ 1000000) :
    Calls Try.prog 88 #[.pointer (some ⟨rc, 0, none⟩)] w fun e w' => e = .returned (.tuple #[]) ∧ RCat w' rc bk c.clear ∧ Mod [rc, bk] w w' := by
  obtain ⟨hc, hf⟩ := h.cells
  have H := Lib.hid h
  have i1 := hlen
  clear h hlen
  have hc' : ∀ i, i < 6 → w.cell? ⟨rc, 0 + i, none⟩ = c.tot.arr[i]? := fun i hi => by
    rw [Nat.zero_add, hc i]
    match i, hi with
    | 0, _ => rfl
    | 1, _ => rfl
    | 2, _ => rfl
    | 3, _ => rfl
    | 4, _ => rfl
    | 5, _ => rfl
  have HC := Lib.hid hc'
  have HF := Lib.hid hf
  clear hc hc' hf
  go_enter Try.func88, Try.ntmps88
  go_wp2_with fail
  refine (cntClear_any rc 0 c.tot _ HC.out HF.out).mono ?_
  rintro e w' ⟨rfl, rfl⟩
  have H1 := Lib.hid (H.out.zeroTot hne)
  have M1 := Lib.hid ((Mod.refl [rc, bk] w).zero6 (b := rc) (by simp) 0)
  clear HC HF H
  generalize zero6 w rc 0 = W1 at *
  obtain ⟨hc, hf⟩ := H1.out.cells
  have g6 := hc 6
  have g7 := hc 7
  have k6 := hf 6
  simp at g6 g7
  clear hc hf
  go_wp2_with fail
  go_loopw [15] (fun i wr => ∃ k : Nat, k ≤ c.bs.length ∧ i = .int .i64 k ∧ Hid (RCat wr rc bk { tot := .zero, age := 0, bs := List.replicate k Cnt.zero ++ c.bs.drop k }) ∧ Hid (Mod [rc, bk] w wr)) (fun i _ => c.bs.length - (intOf i).toNat)
  case atStart =>
    refine ⟨0, Nat.zero_le _, rfl, ?_, M1.out.setCell _ _ (by simp)⟩
    have h0 := H1.out.setAge hne 0
    have h1 : List.replicate 0 Cnt.zero ++ c.bs.drop 0 = c.bs := by simp
    rw [h1]; exact h0
  case round =>
    obtain ⟨k, hk, rfl, HR, HM⟩ := hrel
    have i2 : (0 : Int) ≤ (k : Int) := by omega
    by_cases hlt : k < c.bs.length
    · have i3 : (k : Int) < (c.bs.length : Int) := by omega
      have HL := Lib.hid (show (List.replicate k Cnt.zero ++ c.bs.drop k).length = c.bs.length by simp; omega)
      obtain ⟨hc, hf⟩ := HR.out.cells
      obtain ⟨hb, hbf⟩ := HR.out.buck (j := k) (by rw [HL.out]; exact hlt)
      have g7 := hc 7
      simp only [HL.out] at g7
      simp at g7
      have HB := Lib.hid hb
      have HBF := Lib.hid hbf
      clear hb hbf hc hf
      go_wp2_with fail
      refine (cntClear_any bk (k * 6) _ _ HB.out HBF.out).mono ?_
      rintro e w' ⟨rfl, rfl⟩
      have H2 := Lib.hid (HR.out.zeroBuck hne (j := k) (by rw [HL.out]; exact hlt))
      have M2 := Lib.hid (HM.out.zero6 (b := bk) (by simp) (k * 6))
      clear g7
      go_wp2_with fail
      go_roundw
      case rel => exact ⟨k + 1, by omega, by go_num, by have h2 := H2.out; simp only [zero_step _ _ hlt] at h2; exact h2, M2⟩
      case measure => simp [intOf]; omega
    · have hk2 : k = c.bs.length := by omega
      go_wp2_with fail
      go_end0
      refine ⟨rfl, ?_, HM.out⟩
      have h2 := HR.out
      rw [hk2] at h2
      simpa [RC.clear] using h2

end Go.Proofs.Ytcjklacfoldaoaa
