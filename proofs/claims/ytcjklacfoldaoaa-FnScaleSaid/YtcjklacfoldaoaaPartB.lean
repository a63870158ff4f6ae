/- Two scripts that are alike lie within the bounds together, and are answered alike. Conditions: the first lies within the bounds, the second's rules and times too. -/
import Derived.Test.YtcjklacfoldaoaaPart
namespace Go.Proofs.Ytcjklacfoldaoaa
open Go.RowKit

theorem own_below {w w' : World} {base : Nat} {e : TypeId} {size n : Nat} {v : Value} {xs : List Value} (h : w.ownsRow base e size v n xs) (b : Below w.heap.size w w') : w'.ownsRow base e size v n xs := owns_keep h fun g hg => b.block g (h.lt g hg).2

theorem said_alike {k o start : Int} {r r' : Rules} {l : List Act} {q : SPlay} (al : Alike k r r') (rok : r'.Ok) (m0 : 0 ≤ r'.most) (m1 : r'.most < 4294967296) (h : areActs r start l = true) (hr : areRules r' = true) (ht : isTime (k * start + o) = true) (ha : (l.map (slow k)).all actOk = true) (hq : Said r start l q) :
    areActs r' (k * start + o) (l.map (slow k)) = true ∧ ∃ q', Said r' (k * start + o) (l.map (slow k)) q' ∧ q'.out = q.out ∧ q'.s.chs = q.s.chs := by
  obtain ⟨_, _, h3, h4, _⟩ := areActs_parts h
  obtain ⟨x, hx, hp⟩ := PSame.run al l (PSame.start (o := o) al start) h4 hq.run
  have hA : areActs r' (k * start + o) (l.map (slow k)) = true := by
    unfold areActs twoOk
    rw [hr, ht, ha, hx, List.length_map, decide_eq_true h3]
    simp [hp.s.opn, hq.opn]
  obtain ⟨q', hq'⟩ := said rok hA m0 m1
  have e := hq'.run
  rw [hx] at e
  cases e
  exact ⟨hA, x, hq', hp.out, hp.s.chs⟩

theorem slow_one (l : List Act) : l.map (slow 1) = l := by
  induction l with
  | nil => rfl
  | cons a l ih =>
    rw [List.map_cons, ih]
    congr 1
    unfold slow
    rw [Int.mul_one]
theorem alike_one {r r' : Rules} (hi : 0 < r'.interval ↔ 0 < r.interval) (hi2 : 0 < r.interval → r'.interval = r.interval) (ht : timS r' = timS r) (hm : mostS r' = mostS r) (h1 : ∀ c, tripB r' c = tripB r c) (h2 : ∀ e, 0 ≤ e → e ≤ 6 → goodB r' e = goodB r e) (h3 : ∀ e, 0 ≤ e → e ≤ 6 → outB r' e = outB r e) : Alike 1 r r' :=
  ⟨by decide, hi, fun h => by rw [hi2 h, Int.one_mul], by rw [ht, Int.one_mul], hm, h1, h2, h3⟩
theorem said_one {start other : Int} {r r' : Rules} {l : List Act} {q : SPlay} (al : Alike 1 r r') (rok : r'.Ok) (m0 : 0 ≤ r'.most) (m1 : r'.most < 4294967296) (h : areActs r start l = true) (hr : areRules r' = true) (ht : isTime other = true) (hq : Said r start l q) :
    ∃ q', Said r' other l q' ∧ q'.out = q.out ∧ q'.s.chs = q.s.chs := by
  have e : 1 * start + (other - start) = other := by omega
  obtain ⟨_, _, _, h4, _⟩ := areActs_parts h
  have := (said_alike (o := other - start) al rok m0 m1 h hr (by rw [e]; exact ht) (by rw [slow_one]; exact h4) hq).2
  rw [e, slow_one] at this
  exact this
theorem said_shift {start other : Int} {r : Rules} {l : List Act} {q : SPlay} (rok : r.Ok) (m0 : 0 ≤ r.most) (m1 : r.most < 4294967296) (h : areActs r start l = true) (ht : isTime other = true) (hq : Said r start l q) :
    ∃ q', Said r other l q' ∧ q'.out = q.out ∧ q'.s.chs = q.s.chs :=
  said_one (alike_one Iff.rfl (fun _ => rfl) rfl rfl (fun _ => rfl) (fun _ _ _ => rfl) (fun _ _ _ => rfl)) rok m0 m1 h (areActs_parts h).1 ht hq

def plainR (i : Int) : Rules := ⟨⟨#[]⟩, 0, i, 0, 0, 0, 0, false, 0, false, 0⟩
def fullR (i : Int) : Rules := ⟨⟨#[]⟩, 1, i, 0, 60000000000, 1, 6, true, 1, true, 0⟩
theorem upto6 {P : Int → Prop} (h : P 0 ∧ P 1 ∧ P 2 ∧ P 3 ∧ P 4 ∧ P 5 ∧ P 6) : ∀ e, 0 ≤ e → e ≤ 6 → P e := by
  obtain ⟨a0, a1, a2, a3, a4, a5, a6⟩ := h
  intro e e0 e1
  rcases (show e = 0 ∨ e = 1 ∨ e = 2 ∨ e = 3 ∨ e = 4 ∨ e = 5 ∨ e = 6 by omega) with x | x | x | x | x | x | x <;> rw [x] <;> assumption
theorem alike_full (i : Int) : Alike 1 (plainR i) (fullR i) := by
  refine alike_one Iff.rfl (fun _ => rfl) rfl rfl ?_ ?_ ?_
  · intro c
    unfold tripB plainR fullR
    simp
    omega
  · have g : ∀ e, 0 ≤ e → e ≤ 6 → bitB 1 e = (e == 0) := upto6 ⟨by kernel_rfl, by kernel_rfl, by kernel_rfl, by kernel_rfl, by kernel_rfl, by kernel_rfl, by kernel_rfl⟩
    exact g
  · have g : ∀ e, 0 ≤ e → e ≤ 6 → bitB 0 e = false := upto6 ⟨by kernel_rfl, by kernel_rfl, by kernel_rfl, by kernel_rfl, by kernel_rfl, by kernel_rfl, by kernel_rfl⟩
    exact g
theorem said_full {start i : Int} {l : List Act} {q : SPlay} (h : areActs (plainR i) start l = true) (hq : Said (plainR i) start l q) : ∃ q', Said (fullR i) start l q' ∧ q'.out = q.out ∧ q'.s.chs = q.s.chs := by
  obtain ⟨h1, h2, _⟩ := areActs_parts h
  obtain ⟨_, _, _, hi, _⟩ := areRules_parts h1
  have hr : areRules (fullR i) = true := by
    have l1 : lowBit 1 = 1 := by kernel_rfl
    have l0 : lowBit 0 = 0 := by kernel_rfl
    have l2 : isTime 60000000000 = true := by kernel_rfl
    have hi' : isTime i = true := hi
    unfold areRules fullR
    simp [hi', l1, l0, l2]
    decide
  exact said_one (alike_full i) ⟨by show (0 : Int) ≤ 1; decide, by show (1 : Int) < 256; decide, by show (0 : Int) ≤ 0; decide, by show (0 : Int) < 256; decide⟩ (by show (0 : Int) ≤ 1; decide) (by show (1 : Int) < 4294967296; decide) h hr h2 hq

/-- No times are none, whatever they are. -/
theorem said_none {start i t : Int} {r : Rules} {l : List Act} {q : SPlay} (rok : r.Ok) (m0 : 0 ≤ r.most) (m1 : r.most < 4294967296) (h : areActs { r with interval := 0, timeout := 0 } start l = true) (hi : i ≤ 0) (ht : t ≤ 0) (ii : isTime i = true) (tt : isTime t = true) (hq : Said { r with interval := 0, timeout := 0 } start l q) :
    ∃ q', Said { r with interval := i, timeout := t } start l q' ∧ q'.out = q.out ∧ q'.s.chs = q.s.chs := by
  obtain ⟨h1, h2, _⟩ := areActs_parts h
  have al : Alike 1 { r with interval := 0, timeout := 0 } { r with interval := i, timeout := t } := by
    refine alike_one ⟨fun x => ?_, fun x => ?_⟩ (fun x => ?_) ?_ rfl (fun _ => rfl) (fun _ _ _ => rfl) (fun _ _ _ => rfl)
    · have : 0 < i := x; omega
    · have : (0 : Int) < 0 := x; omega
    · have : (0 : Int) < 0 := x; omega
    · unfold timS; dsimp only; rw [if_pos ht, if_pos (by decide)]
  have hr : areRules { r with interval := i, timeout := t } = true := by
    unfold areRules at h1 ⊢
    dsimp only at h1 ⊢
    rw [ii, tt]
    have e : isTime 0 = true := by decide
    rw [e] at h1
    exact h1
  exact said_one al ⟨rok.good0, rok.good1, rok.out0, rok.out1⟩ m0 m1 h hr h2 hq

end Go.Proofs.Ytcjklacfoldaoaa
