/- A row of calls opened. Condition: it can be read as data. -/
import Derived.Test.YtcjklacfoldaoaaOpen
import Derived.Test.YtcjklacfoldaoaaPlayC
namespace Go.Proofs.Ytcjklacfoldaoaa
open Go.Joins Go.ChangeShapes Go.WideShapes Go.RowKit Go.Deep

section
variable {H : Type} {enc : TypeId × Value → H} {w : World} {base : Nat} {spare : Nat → Bool} {held : Bool}
set_option maxRecDepth 100000 in
theorem open_calls {r : Reach} {b0 : Nat} {v : Value} {d : DataW H} {p : List MemPlace} (hv : Value.okWide Try.prog w r b0 58 v) (h : DataW.Trod enc Try.prog w base spare held 58 v d p) : ∃ l : List Call, CallsAt w v l := by
  obtain ⟨a0, len, cap, rfl⟩ := okWide_slice Try.underlying58 hv
  obtain ⟨fuel, hf⟩ := h
  rcases open_slice_fields Try.underlying58 Try.underlying57 (by kernel_rfl) (by kernel_rfl) hf with ⟨hc, _⟩ | ⟨a, len', cap', m, hc, _, _, hm, hi⟩
  · have e : Value.slice a0 len cap = .slice none 0 0 := by simpa [Value.cells] using hc
    cases e
    exact ⟨[], none, 0, rfl, by simp⟩
  · have e : Value.slice a0 len cap = .slice (some a) len' cap' := by simpa [Value.cells] using hc
    cases e
    have key : ∀ i, i < len → ∃ x : Call, a.spot = none ∧ a.block < w.heap.size ∧ ∀ (j : Nat) (u : Value), (callRow x)[j]? = some u → w.cell? ⟨a.block, a.off + i * 5 + j, none⟩ = some u := by
      intro i hil
      obtain ⟨ys, n, hf⟩ := hi i (by rw [hm]; split <;> omega)
      obtain ⟨v0, y0, c0, _, t0⟩ := hf 0 _ rfl
      obtain ⟨v1, y1, c1, _, t1⟩ := hf 1 _ rfl
      obtain ⟨v2, y2, c2, _, t2⟩ := hf 2 _ rfl
      obtain ⟨v3, y3, c3, _, t3⟩ := hf 3 _ rfl
      obtain ⟨v4, y4, c4, _, t4⟩ := hf 4 _ rfl
      obtain ⟨k0, e0, _⟩ := DataW.trod_int Try.underlying2 t0
      obtain ⟨k1, e1, _⟩ := DataW.trod_int Try.underlying2 t1
      obtain ⟨k2, e2, _⟩ := DataW.trod_int Try.underlying3 t2
      obtain ⟨k3, e3, _⟩ := DataW.trod_int Try.underlying3 t3
      obtain ⟨k4, e4, _⟩ := DataW.trod_bool Try.underlying4 t4
      cases e0; cases e1; cases e2; cases e3; cases e4
      obtain ⟨f0, a0, _, _, g0, _⟩ := hi 0 (by rw [hm]; split <;> omega) |>.elim fun ys h => h.elim fun n h => (⟨ys, h 0 _ rfl |>.choose, n, trivial, (h 0 _ rfl).choose_spec.choose_spec.1, trivial⟩ : ∃ (_ : List (DataW H × List MemPlace)) (v : Value) (_ : Nat) (_ : True), w.cell? (a.add (0 * 5 + 0)) = some v ∧ True)
      obtain ⟨s1, s2⟩ := cell_spot (a := a) g0
      refine ⟨⟨k0, k1, k2, k3, k4⟩, s1, s2, fun j u hu => ?_⟩
      match j, hu with
      | 0, hu => simp [callRow] at hu; subst hu; have := cell_add c0 s1; rw [← Nat.add_assoc] at this; exact this
      | 1, hu => simp [callRow] at hu; subst hu; have := cell_add c1 s1; rw [← Nat.add_assoc] at this; exact this
      | 2, hu => simp [callRow] at hu; subst hu; have := cell_add c2 s1; rw [← Nat.add_assoc] at this; exact this
      | 3, hu => simp [callRow] at hu; subst hu; have := cell_add c3 s1; rw [← Nat.add_assoc] at this; exact this
      | 4, hu => simp [callRow] at hu; subst hu; have := cell_add c4 s1; rw [← Nat.add_assoc] at this; exact this
      | j + 5, hu => simp [callRow] at hu
    obtain ⟨l, hl, hp⟩ := pick_list len key
    subst hl
    refine ⟨l, some a, cap, rfl, fun i x hx => ?_⟩
    obtain ⟨s1, s2, s3⟩ := hp i x hx
    refine ⟨a.block, a.off, ?_, s2, s3⟩
    cases a
    simp at s1
    subst s1
    rfl
end

end Go.Proofs.Ytcjklacfoldaoaa
