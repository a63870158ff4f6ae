/- Nothing is due behind a look at the clock (plain). No condition. -/
import Derived.Test.YtcjklacfoldaoaaLaw
namespace Go.Proofs.Ytcjklacfoldaoaa
open Go.RowKit

/-- Nothing is due at a time. -/
def Fresh (s : SB) (now : Int) : Prop := s.timed = true → now < s.fin
theorem fresh_clear {r : Rules} {s : SB} {now : Int} : Fresh (SB.clear r now s) now := by
  intro ht
  unfold SB.clear at ht ⊢
  dsimp only at ht ⊢
  by_cases h0 : s.state = 0
  · rw [if_pos h0] at ht ⊢
    have : 0 < r.interval := by simpa using ht
    omega
  · rw [if_neg h0] at ht ⊢
    by_cases h2 : s.state = 2
    · rw [if_pos h2]; split <;> omega
    · rw [if_neg h2] at ht; cases ht
theorem fresh_look {r : Rules} {s : SB} {now : Int} (ho : (s.look r now).opn = false) : Fresh (s.look r now) now := by
  by_cases ht : s.timed = true
  · obtain ⟨_, o2⟩ := look_opn ho ht
    unfold SB.look
    rw [if_neg (by simp [ht])]
    by_cases hl : now ≤ s.fin
    · rw [if_pos hl]; intro _; dsimp only; omega
    · rw [if_neg hl]
      split
      · exact fresh_clear
      · exact fresh_clear
  · have e : s.look r now = s := by unfold SB.look; rw [if_pos (by simpa using ht)]
    rw [e]; intro h; exact absurd h ht
theorem fresh_same {r : Rules} {s : SB} {now : Int} (h : Fresh s now) (ho : s.opn = false) : s.look r now = s := by
  unfold SB.look
  by_cases ht : s.timed = false
  · rw [if_pos ht]
  · have := h (by simpa using ht)
    rw [if_neg ht, if_pos (by omega)]
    exact SB.opn_eta ho (beq_eq_false_iff_ne.2 (by omega))
theorem fresh_allow {r : Rules} {s : SB} {now : Int} (h : Fresh s now) : Fresh (s.allow1 r) now := by
  unfold SB.allow1; split
  · exact h
  · exact h
theorem fresh_done {r : Rules} {s : SB} {now cl e : Int} (ho : (s.done r now cl e).opn = false) : Fresh (s.done r now cl e) now := by
  unfold SB.done at ho ⊢
  split at ho
  · next hc => rw [if_pos hc]; exact fresh_look ho
  · next hc =>
    rw [if_neg hc]
    have hf := fresh_look (done1_opn ho).1
    unfold SB.done1
    split
    · exact hf
    · split
      · split
        · exact fresh_clear
        · exact hf
      · split
        · exact fresh_clear
        · exact hf

end Go.Proofs.Ytcjklacfoldaoaa
