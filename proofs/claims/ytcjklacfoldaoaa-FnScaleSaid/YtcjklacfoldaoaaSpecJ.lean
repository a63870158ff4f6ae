/- Contract of the statements' Done as one. Conditions: the breaker lies in its blocks, the times are in their ranges. -/
import Derived.Test.YtcjklacfoldaoaaSpecI
namespace Go.Proofs.Ytcjklacfoldaoaa
open Go.RowKit

/-- The state is one of three. -/
def SB.Three (s : SB) : Prop := s.state = 0 ∨ s.state = 1 ∨ s.state = 2
theorem SB.Three.clear {s : SB} (h : s.Three) (r : Rules) (now : Int) : (SB.clear r now s).Three := h
theorem SB.Three.set {s : SB} {st : Int} (h : st = 0 ∨ st = 1 ∨ st = 2) (r : Rules) (now : Int) : (SB.set r st now s).Three := h
theorem SB.Three.look {s : SB} (h : s.Three) (r : Rules) (now : Int) : (s.look r now).Three := by
  unfold SB.look
  split
  · exact h
  · split
    · exact h
    · split
      · exact h
      · exact .inr (.inl rfl)
theorem SB.look_chs (s : SB) (r : Rules) (now : Int) : (s.look r now).chs.length ≤ s.chs.length + 1 := by
  unfold SB.look
  split
  · omega
  · split
    · simp
    · split
      · simp [SB.clear]
      · simp [SB.set, SB.clear]
theorem SB.Three.done {s : SB} (h : s.Three) (r : Rules) (now cl e : Int) : (s.done r now cl e).Three := by
  have hl := h.look r now
  unfold SB.done SB.done1
  split
  · exact hl
  · split
    · exact hl
    · split
      · split
        · exact .inl rfl
        · exact hl
      · split
        · exact .inr (.inr rfl)
        · exact hl
theorem SB.done_chs (s : SB) (r : Rules) (now cl e : Int) : (s.done r now cl e).chs.length ≤ s.chs.length + 2 := by
  have hl := s.look_chs r now
  unfold SB.done SB.done1
  split
  · omega
  · split
    · simp; omega
    · split
      · split
        · simp [SB.set, SB.clear]; omega
        · simp; omega
      · split
        · simp [SB.set, SB.clear]; omega
        · simp; omega
theorem SB.Three.allow {s : SB} (h : s.Three) (r : Rules) (now : Int) : ((s.look r now).allow1 r).Three := by
  have hl := h.look r now
  unfold SB.allow1
  split
  · exact hl
  · exact hl
theorem SB.allow_chs (s : SB) (r : Rules) (now : Int) : ((s.look r now).allow1 r).chs.length ≤ s.chs.length + 1 := by
  have hl := s.look_chs r now
  unfold SB.allow1
  split
  · simpa using hl
  · exact hl
theorem SB.Three.lo {s : SB} (h : s.Three) : 0 ≤ s.state ∧ s.state ≤ 2 := by rcases h with h | h | h <;> omega

theorem sbDone_any (b cr : Nat) (r : Rules) (s : SB) (now cl n : Int) (w : World) (h : SBat w b cr r s) (mild : r.Mild) (rok : r.Ok) (h3 : s.Three) (hlen : s.chs.length ≤ 999999) (t0 : -3000000000000000000 ≤ now) (t1 : now ≤ 3000000000000000000) (n0 : 0 ≤ n) (n1 : n ≤ 7) :
    Calls Try.prog 45 #[.pointer (some ⟨b, 0, none⟩), .int .i64 now, .int .u64 cl, .int .i64 n] w fun e w' => e = .returned (.tuple #[]) ∧ SEvo b r w cr w' (s.done r now cl n) := by
  have hle : (s.look r now).chs.length ≤ 1000000 := by have := s.look_chs r now; omega
  have hs := h3.look r now
  unfold SB.done
  by_cases hcl : (s.look r now).cleared = cl
  · rw [if_neg (by simpa using hcl)]
    unfold SB.done1
    cases ho : outB r n with
    | true => rw [if_pos rfl]; exact sbDone_out b cr r s now cl n w h mild rok hlen t0 t1 n0 n1 hcl ho
    | false =>
      rw [if_neg (by simp)]
      cases hg : goodB r n with
      | true =>
        rw [if_pos rfl]
        rcases hs with hs | hs | hs
        · rw [if_neg (by omega)]; exact sbDone_good0 b cr r s now cl n w h mild rok hlen t0 t1 n0 n1 hcl ho hg hs
        · by_cases hm : mostS r ≤ (s.look r now).cnt.succ.g
          · rw [if_pos ⟨hs, hm⟩]; exact sbDone_shut b cr r s now cl n w h mild rok hlen t0 t1 n0 n1 hcl ho hg hs hm hle
          · rw [if_neg (fun x => hm x.2)]; exact sbDone_stay b cr r s now cl n w h mild rok hlen t0 t1 n0 n1 hcl ho hg hs (by omega)
        · rw [if_neg (by omega)]; exact sbDone_good2 b cr r s now cl n w h mild rok hlen t0 t1 n0 n1 hcl ho hg hs
      | false =>
        rw [if_neg (by simp)]
        rcases hs with hs | hs | hs
        · cases ht : tripB r (s.look r now).cnt.fail with
          | true => rw [if_pos (.inr ⟨hs, rfl⟩)]; exact sbDone_fail3 b cr r s now cl n w h mild rok hlen t0 t1 n0 n1 hcl ho hg hs ht hle
          | false => rw [if_neg (by simp; omega)]; exact sbDone_fail0 b cr r s now cl n w h mild rok hlen t0 t1 n0 n1 hcl ho hg hs ht
        · rw [if_pos (.inl hs)]; exact sbDone_fail1 b cr r s now cl n w h mild rok hlen t0 t1 n0 n1 hcl ho hg hs hle
        · rw [if_neg (by omega)]; exact sbDone_fail2 b cr r s now cl n w h mild rok hlen t0 t1 n0 n1 hcl ho hg hs
  · rw [if_pos hcl]; exact sbDone_stale b cr r s now cl n w h mild rok hlen t0 t1 n0 n1 hcl

end Go.Proofs.Ytcjklacfoldaoaa
