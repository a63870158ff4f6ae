/- Contract of Look as one. Conditions: the breaker lies in its blocks, the times are in their ranges. -/
import Derived.Test.YtcjklacfoldaoaaSpecE
namespace Go.Proofs.Ytcjklacfoldaoaa
open Go.RowKit
attribute [local go_sem ↓] Go.wp_at_zero Go.wp_at_succ


set_option maxRecDepth 100000 in
set_option maxHeartbeats 1000000 in
theorem sbLook_clear (b cr : Nat) (r : Rules) (s : SB) (now : Int) (w : World) (h : SBat w b cr r s) (mild : r.Mild) (_hlen : s.chs.length ≤ 1000000) (t0 : -3000000000000000000 ≤ now) (t1 : now ≤ 3000000000000000000) (ht : s.timed = true) (hn : s.fin < now) (hst : s.state = 0) :
    Calls Try.prog 43 #[.pointer (some ⟨b, 0, none⟩), .int .i64 now] w fun e w' => e = .returned (.tuple #[]) ∧ SEvo b r w cr w' (SB.clear r now { s with opn := s.opn || (now == s.fin) }) := by
  obtain ⟨cv, hv, ho, hr⟩ := h.at_
  have hc := hv.cells.1
  have hf := hv.cells.2
  have z := size_of_heap hv
  rw [ht] at hc
  have HS := Lib.hid h
  have HV := Lib.hid hv
  have HO := Lib.hid ho
  have HR := Lib.hid hr
  have HT := Lib.hid ht
  have HST := Lib.hid hst
  clear h hv ho hr ht
  have M : ∀ x : Bool, Mod [b] w (w.setCell ⟨b, 22, none⟩ (.bool x)) := fun x => (Mod.refl [b] w).setCell _ _ (by simp)
  have MM := Lib.hid M
  clear M
  have v1 : ∀ x : Bool, x = (s.opn || (now == s.fin)) → SBcv (w.setCell ⟨b, 22, none⟩ (.bool x)) b r { s with opn := s.opn || (now == s.fin) } cv := by
    rintro x rfl
    exact (heap_set_same HV.out).trans (by simp [sbArr])
  have V1 := Lib.hid v1
  clear v1
  rw [hst] at hc
  clear hst
  cases hop : s.opn with
  | true =>
    rw [hop] at hc
    have HP := Lib.hid hop
    rw [← hop]
    clear hop
    go_enter Try.func43, Try.ntmps43
    go_wp2_with fail
    refine (clear_any b r { s with opn := s.opn || (now == s.fin) } cv now _ (V1.out _ (by first | (rw [HP.out]; done) | (rw [HP.out]; rfl) | (rw [HP.out]; simp))) (by have := HST.out; dsimp only; omega) (by have := HST.out; dsimp only; omega) t0 t1 mild.i0 mild.i1 mild.j0 mild.j1).mono ?_
    rintro e w2 ⟨rfl, hv2, hm2⟩
    have V2 := Lib.hid hv2
    have M2 := Lib.hid ((MM.out _).trans hm2)
    clear hv2 hm2
    go_wp2_with fail
    go_end0
    exact ⟨rfl, cr, HS.out.one HO.out HR.out V2.out rfl M2.out, .inl rfl, M2.out.mono (by simp)⟩
  | false =>
    rw [hop] at hc
    have HP := Lib.hid hop
    rw [← hop]
    clear hop
    go_enter Try.func43, Try.ntmps43
    go_wp2_with fail
    refine (clear_any b r { s with opn := s.opn || (now == s.fin) } cv now _ (V1.out _ (by first | (rw [HP.out]; done) | (rw [HP.out]; rfl) | (rw [HP.out]; simp))) (by have := HST.out; dsimp only; omega) (by have := HST.out; dsimp only; omega) t0 t1 mild.i0 mild.i1 mild.j0 mild.j1).mono ?_
    rintro e w2 ⟨rfl, hv2, hm2⟩
    have V2 := Lib.hid hv2
    have M2 := Lib.hid ((MM.out _).trans hm2)
    clear hv2 hm2
    go_wp2_with fail
    go_end0
    exact ⟨rfl, cr, HS.out.one HO.out HR.out V2.out rfl M2.out, .inl rfl, M2.out.mono (by simp)⟩


set_option maxRecDepth 100000 in
set_option maxHeartbeats 1000000 in
theorem sbLook_set (b cr : Nat) (r : Rules) (s : SB) (now : Int) (w : World) (h : SBat w b cr r s) (mild : r.Mild) (hlen : s.chs.length ≤ 1000000) (t0 : -3000000000000000000 ≤ now) (t1 : now ≤ 3000000000000000000) (ht : s.timed = true) (hn : s.fin < now) (hst : s.state ≠ 0) :
    Calls Try.prog 43 #[.pointer (some ⟨b, 0, none⟩), .int .i64 now] w fun e w' => e = .returned (.tuple #[]) ∧ SEvo b r w cr w' (SB.set r 1 now { s with opn := s.opn || (now == s.fin) }) := by
  obtain ⟨cv, hv, ho, hr⟩ := h.at_
  have hc := hv.cells.1
  have hf := hv.cells.2
  have z := size_of_heap hv
  rw [ht] at hc
  have HS := Lib.hid h
  have HV := Lib.hid hv
  have HO := Lib.hid ho
  have HR := Lib.hid hr
  have HT := Lib.hid ht
  have HST := Lib.hid hst
  clear h hv ho hr ht
  have M : ∀ x : Bool, Mod [b] w (w.setCell ⟨b, 22, none⟩ (.bool x)) := fun x => (Mod.refl [b] w).setCell _ _ (by simp)
  have MM := Lib.hid M
  clear M
  have v1 : ∀ x : Bool, x = (s.opn || (now == s.fin)) → SBcv (w.setCell ⟨b, 22, none⟩ (.bool x)) b r { s with opn := s.opn || (now == s.fin) } cv := by
    rintro x rfl
    exact (heap_set_same HV.out).trans (by simp [sbArr])
  have V1 := Lib.hid v1
  clear v1
  have hst' : (s.state == 0) = false := by simpa using hst
  clear hst
  cases hop : s.opn with
  | true =>
    rw [hop] at hc
    have HP := Lib.hid hop
    rw [← hop]
    clear hop
    go_enter Try.func43, Try.ntmps43
    go_wp2_with fail
    have B1 := HS.out.one HO.out HR.out (V1.out _ (by first | (rw [HP.out]; done) | (rw [HP.out]; rfl) | (rw [HP.out]; simp))) rfl (MM.out _)
    refine (set_any b cr r { s with opn := s.opn || (now == s.fin) } 1 now _ B1 mild hlen (by omega) (by omega) t0 t1).mono ?_
    rintro e w2 ⟨rfl, hev⟩
    have EV := Lib.hid hev
    clear hev B1
    go_wp2_with fail
    go_end0
    obtain ⟨cr2, b2, k2, m2⟩ := EV.out
    exact ⟨rfl, cr2, b2, by simpa using k2, ((MM.out _).mono (by simp)).trans m2⟩
  | false =>
    rw [hop] at hc
    have HP := Lib.hid hop
    rw [← hop]
    clear hop
    go_enter Try.func43, Try.ntmps43
    go_wp2_with fail
    have B1 := HS.out.one HO.out HR.out (V1.out _ (by first | (rw [HP.out]; done) | (rw [HP.out]; rfl) | (rw [HP.out]; simp))) rfl (MM.out _)
    refine (set_any b cr r { s with opn := s.opn || (now == s.fin) } 1 now _ B1 mild hlen (by omega) (by omega) t0 t1).mono ?_
    rintro e w2 ⟨rfl, hev⟩
    have EV := Lib.hid hev
    clear hev B1
    go_wp2_with fail
    go_end0
    obtain ⟨cr2, b2, k2, m2⟩ := EV.out
    exact ⟨rfl, cr2, b2, by simpa using k2, ((MM.out _).mono (by simp)).trans m2⟩


theorem sbLook_any (b cr : Nat) (r : Rules) (s : SB) (now : Int) (w : World) (h : SBat w b cr r s) (mild : r.Mild) (hlen : s.chs.length ≤ 1000000) (t0 : -3000000000000000000 ≤ now) (t1 : now ≤ 3000000000000000000) :
    Calls Try.prog 43 #[.pointer (some ⟨b, 0, none⟩), .int .i64 now] w fun e w' => e = .returned (.tuple #[]) ∧ SEvo b r w cr w' (s.look r now) := by
  unfold SB.look
  by_cases ht : s.timed = false
  · rw [if_pos ht]; exact sbLook_idle b cr r s now w h ht
  · rw [if_neg ht]
    have ht' : s.timed = true := by simpa using ht
    by_cases hn : now ≤ s.fin
    · rw [if_pos hn]; exact sbLook_early b cr r s now w h ht' hn
    · rw [if_neg hn]
      by_cases hst : s.state = 0
      · rw [if_pos hst]; exact sbLook_clear b cr r s now w h mild hlen t0 t1 ht' (by omega) hst
      · rw [if_neg hst]; exact sbLook_set b cr r s now w h mild hlen t0 t1 ht' (by omega) hst

end Go.Proofs.Ytcjklacfoldaoaa
