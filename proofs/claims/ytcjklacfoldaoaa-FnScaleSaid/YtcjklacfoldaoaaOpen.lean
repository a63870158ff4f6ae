/- The arguments of the laws opened: rules by value, a row of acts. Condition: they can be read as data. -/
import Derived.Test.YtcjklacfoldaoaaPlayM
import Derived.Test.YtcjklacfoldaoaaSpecB
import Derived.ProofKit
import Derived.Deep.Slices
import Derived.Deep.Fields
import Derived.ChangeSame
import Derived.Lib.SmallJoins
namespace Go.Proofs.Ytcjklacfoldaoaa
open Go.Joins Go.ChangeShapes Go.WideShapes Go.RowKit Go.Deep

section
variable {H : Type} {enc : TypeId × Value → H} {P : Program} {w : World} {base : Nat} {spare : Nat → Bool} {held : Bool}
theorem open_slice_fields {t e : TypeId} {fs : Array Field} {fuel : Nat} {cs : List Value} {x : DataW H × List MemPlace} (ht : P.underlying t = some (.slice e)) (he : P.underlying e = some (.struct fs))
    (hone : oneCellFields P fs = true) (hC : P.cellsOf e = fs.size) (h : DataW.trod enc P w base spare held fuel t cs = some x) :
    (cs = [.slice none 0 0] ∧ x = (.nil, [])) ∨
    ∃ (a : Addr) (len cap m : Nat), cs = [.slice (some a) len cap] ∧ len ≤ cap ∧ cap ≤ maxLen ∧ m = (if spare a.block then cap else len) ∧
      ∀ i, i < m → ∃ (ys : List (DataW H × List MemPlace)) (n : Nat), ∀ (j : Nat) (f : Field), fs[j]? = some f → ∃ (v : Value) (y : DataW H × List MemPlace), w.cell? (a.add (i * fs.size + j)) = some v ∧ ys[j]? = some y ∧ DataW.trod enc P w base spare held n f.type [v] = some y := by
  rcases open_slice ht h with h0 | ⟨a, len, cap, m, n, D, Pl, hcs, hb, hl, hm, hmm, hx, hi⟩
  · exact .inl h0
  · refine .inr ⟨a, len, cap, m, hcs, hl, hm, hmm, fun i him => ?_⟩
    obtain ⟨cs', hc, ht'⟩ := hi i him
    rw [hC] at hc
    obtain ⟨ys, n', hn', hy, hlen, hyl, hf⟩ := DataW.trod_struct he ht'
    obtain ⟨_, hcl, hat⟩ := World.cells?_some hc
    refine ⟨ys, n', fun j f hj => ?_⟩
    obtain ⟨ho, hk⟩ := hone_of hone j f hj
    have hjl : j < fs.size := (Array.getElem?_eq_some_iff.1 hj).1
    have hcell := hat j hjl
    have hv : cs'[j]? = some (cs'[j]'(by omega)) := List.getElem?_eq_getElem (by omega)
    have h1 := hf j f hj
    rw [ho, hk] at h1
    have hone' : (cs'.drop j).take 1 = [cs'[j]'(by omega)] := by
      rw [List.drop_eq_getElem_cons (by omega)]
      rfl
    rw [hone'] at h1
    have hys : ys[j]? = some (ys[j]'(by omega)) := List.getElem?_eq_getElem (by omega)
    refine ⟨_, _, ?_, hys, h1.trans hys⟩
    rw [← Go.Deep.add_add, hcell, hv]

theorem open_agg11 {r : Reach} {b0 : Nat} {t : TypeId} {f0 f1 f2 f3 f4 f5 f6 f7 f8 f9 f10 : Field} {v : Value} {d : DataW H} {p : List MemPlace} (hs : P.underlying t = some (.struct #[f0, f1, f2, f3, f4, f5, f6, f7, f8, f9, f10])) (hone : oneCellFields P #[f0, f1, f2, f3, f4, f5, f6, f7, f8, f9, f10] = true) (hC : P.cellsOf t = 11)
    (hv : Value.okWide P w r b0 t v) (h : DataW.Trod enc P w base spare held t v d p) :
    ∃ (v0 v1 v2 v3 v4 v5 v6 v7 v8 v9 v10 : Value) (y0 y1 y2 y3 y4 y5 y6 y7 y8 y9 y10 : DataW H × List MemPlace) (n : Nat), v = .agg #[v0, v1, v2, v3, v4, v5, v6, v7, v8, v9, v10] ∧
      DataW.trod enc P w base spare held n f0.type [v0] = some y0 ∧ DataW.trod enc P w base spare held n f1.type [v1] = some y1 ∧ DataW.trod enc P w base spare held n f2.type [v2] = some y2 ∧ DataW.trod enc P w base spare held n f3.type [v3] = some y3 ∧ DataW.trod enc P w base spare held n f4.type [v4] = some y4 ∧ DataW.trod enc P w base spare held n f5.type [v5] = some y5 ∧ DataW.trod enc P w base spare held n f6.type [v6] = some y6 ∧ DataW.trod enc P w base spare held n f7.type [v7] = some y7 ∧ DataW.trod enc P w base spare held n f8.type [v8] = some y8 ∧ DataW.trod enc P w base spare held n f9.type [v9] = some y9 ∧ DataW.trod enc P w base spare held n f10.type [v10] = some y10 := by
  obtain ⟨cs, rfl, hsz⟩ := okWide_struct hs hv
  obtain ⟨l⟩ := cs
  match l, hsz.trans hC with
  | [c0, c1, c2, c3, c4, c5, c6, c7, c8, c9, c10], _ =>
    obtain ⟨fuel, hf⟩ := h
    obtain ⟨xs, n, _, hx, _, hlen, hg⟩ := DataW.trod_struct hs hf
    obtain ⟨o0, k0⟩ := hone_of hone 0 f0 rfl
    obtain ⟨o1, k1⟩ := hone_of hone 1 f1 rfl
    obtain ⟨o2, k2⟩ := hone_of hone 2 f2 rfl
    obtain ⟨o3, k3⟩ := hone_of hone 3 f3 rfl
    obtain ⟨o4, k4⟩ := hone_of hone 4 f4 rfl
    obtain ⟨o5, k5⟩ := hone_of hone 5 f5 rfl
    obtain ⟨o6, k6⟩ := hone_of hone 6 f6 rfl
    obtain ⟨o7, k7⟩ := hone_of hone 7 f7 rfl
    obtain ⟨o8, k8⟩ := hone_of hone 8 f8 rfl
    obtain ⟨o9, k9⟩ := hone_of hone 9 f9 rfl
    obtain ⟨o10, k10⟩ := hone_of hone 10 f10 rfl
    match xs, hlen with
    | [y0, y1, y2, y3, y4, y5, y6, y7, y8, y9, y10], _ =>
      exact ⟨c0, c1, c2, c3, c4, c5, c6, c7, c8, c9, c10, y0, y1, y2, y3, y4, y5, y6, y7, y8, y9, y10, n, rfl, by simpa [Value.cells, o0, k0] using hg 0 f0 rfl, by simpa [Value.cells, o1, k1] using hg 1 f1 rfl, by simpa [Value.cells, o2, k2] using hg 2 f2 rfl, by simpa [Value.cells, o3, k3] using hg 3 f3 rfl, by simpa [Value.cells, o4, k4] using hg 4 f4 rfl, by simpa [Value.cells, o5, k5] using hg 5 f5 rfl, by simpa [Value.cells, o6, k6] using hg 6 f6 rfl, by simpa [Value.cells, o7, k7] using hg 7 f7 rfl, by simpa [Value.cells, o8, k8] using hg 8 f8 rfl, by simpa [Value.cells, o9, k9] using hg 9 f9 rfl, by simpa [Value.cells, o10, k10] using hg 10 f10 rfl⟩
end

/-- Rules that came in: their numbers are in their types' ranges. -/
structure RulesIn (r : Rules) : Prop where
  ok : r.Ok
  m0 : 0 ≤ r.most
  m1 : r.most < 4294967296
  i0 : -9223372036854775808 ≤ r.interval
  i1 : r.interval ≤ 9223372036854775807
  b0 : -9223372036854775808 ≤ r.bucket
  b1 : r.bucket ≤ 9223372036854775807
  t0 : -9223372036854775808 ≤ r.timeout
  t1 : r.timeout ≤ 9223372036854775807

section
variable {H : Type} {enc : TypeId × Value → H} {w : World} {base : Nat} {spare : Nat → Bool} {held : Bool}
theorem wf_parts {k : IntKind} {n : Int} (h : (Lit.int k n).wf = true) : k.min ≤ n ∧ n ≤ k.max := by
  unfold Lit.wf at h
  simpa using h
set_option maxRecDepth 100000 in
theorem open_rules {r : Reach} {b0 : Nat} {v : Value} {d : DataW H} {p : List MemPlace} (hv : Value.okWide Try.prog w r b0 24 v) (h : DataW.Trod enc Try.prog w base spare held 24 v d p) : ∃ x : Rules, v = rulesV x ∧ RulesIn x := by
  obtain ⟨v0, v1, v2, v3, v4, v5, v6, v7, v8, v9, v10, y0, y1, y2, y3, y4, y5, y6, y7, y8, y9, y10, n, rfl, h0, h1, h2, h3, h4, h5, h6, h7, h8, h9, h10⟩ := open_agg11 Try.underlying24 (by kernel_rfl) (by kernel_rfl) hv h
  obtain ⟨name, e0, _, _⟩ := DataW.trod_string Try.underlying9 h0
  obtain ⟨most, e1, _, w1⟩ := DataW.trod_int Try.underlying22 h1
  obtain ⟨int, e2, _, w2⟩ := DataW.trod_int Try.underlying2 h2
  obtain ⟨buc, e3, _, w3⟩ := DataW.trod_int Try.underlying2 h3
  obtain ⟨tim, e4, _, w4⟩ := DataW.trod_int Try.underlying2 h4
  obtain ⟨trip, e5, _, w5⟩ := DataW.trod_int Try.underlying3 h5
  obtain ⟨bound, e6, _, w6⟩ := DataW.trod_int Try.underlying22 h6
  obtain ⟨hg, e7, _⟩ := DataW.trod_bool Try.underlying4 h7
  obtain ⟨good, e8, _, w8⟩ := DataW.trod_int Try.underlying5 h8
  obtain ⟨ho, e9, _⟩ := DataW.trod_bool Try.underlying4 h9
  obtain ⟨out, e10, _, w10⟩ := DataW.trod_int Try.underlying5 h10
  cases e0; cases e1; cases e2; cases e3; cases e4; cases e5; cases e6; cases e7; cases e8; cases e9; cases e10
  have a1 : (0 : Int) ≤ most ∧ most ≤ 4294967295 := wf_parts w1
  have a2 : (-9223372036854775808 : Int) ≤ int ∧ int ≤ 9223372036854775807 := wf_parts w2
  have a3 : (-9223372036854775808 : Int) ≤ buc ∧ buc ≤ 9223372036854775807 := wf_parts w3
  have a4 : (-9223372036854775808 : Int) ≤ tim ∧ tim ≤ 9223372036854775807 := wf_parts w4
  have a8 : (0 : Int) ≤ good ∧ good ≤ 255 := wf_parts w8
  have a10 : (0 : Int) ≤ out ∧ out ≤ 255 := wf_parts w10
  exact ⟨⟨name, most, int, buc, tim, trip, bound, hg, good, ho, out⟩, rfl, ⟨a8.1, by show good < 256; omega, a10.1, by show out < 256; omega⟩, a1.1, by show most < 4294967296; omega, a2.1, a2.2, a3.1, a3.2, a4.1, a4.2⟩

set_option maxRecDepth 100000 in
theorem open_num {t : TypeId} {k : IntKind} {r : Reach} {b0 : Nat} {v : Value} {d : DataW H} {p : List MemPlace} (ht : Try.prog.underlying t = some (.int k)) (hv : Value.okWide Try.prog w r b0 t v) (h : DataW.Trod enc Try.prog w base spare held t v d p) : ∃ n, v = .int k n ∧ (k.min ≤ n ∧ n ≤ k.max) := by
  obtain ⟨n, hn, _, _, hw⟩ := open_int ht hv h
  exact ⟨n, hn, wf_parts hw⟩

theorem pick_list {α : Type} {P : Nat → α → Prop} (n : Nat) (h : ∀ i, i < n → ∃ x, P i x) : ∃ l : List α, l.length = n ∧ ∀ i x, l[i]? = some x → P i x := by
  induction n with
  | zero => exact ⟨[], rfl, by simp⟩
  | succ n ih =>
    obtain ⟨l, hl, hp⟩ := ih (fun i hi => h i (by omega))
    obtain ⟨x, hx⟩ := h n (by omega)
    refine ⟨l ++ [x], by simp [hl], fun i y hy => ?_⟩
    rcases Nat.lt_trichotomy i l.length with hi | hi | hi
    · rw [List.getElem?_append_left hi] at hy; exact hp i y hy
    · subst hi; simp at hy; subst hy; rw [hl]; exact hx
    · rw [List.getElem?_eq_none (by simp; omega)] at hy; cases hy

theorem cell_add {a : Addr} {k : Nat} {v : Value} (h : w.cell? (a.add k) = some v) (hs : a.spot = none) : w.cell? ⟨a.block, a.off + k, none⟩ = some v := by
  unfold Addr.add at h
  split at h
  · next hk => subst hk; rw [Nat.add_zero]; cases a; simp at hs; subst hs; exact h
  · exact h
theorem cell_spot {a : Addr} {v : Value} (h : w.cell? a = some v) : a.spot = none ∧ a.block < w.heap.size := by
  unfold World.cell? at h
  split at h
  · next c _ _ hc =>
    split at h
    · cases h
    · next hs => exact ⟨by simpa using hs, (Array.getElem?_eq_some_iff.1 hc).1⟩
  · cases h

set_option maxRecDepth 100000 in
theorem open_acts {r : Reach} {b0 : Nat} {v : Value} {d : DataW H} {p : List MemPlace} (hv : Value.okWide Try.prog w r b0 25 v) (h : DataW.Trod enc Try.prog w base spare held 25 v d p) : ∃ l : List Act, ActsAt w v l := by
  obtain ⟨a0, len, cap, rfl⟩ := okWide_slice Try.underlying25 hv
  obtain ⟨fuel, hf⟩ := h
  rcases open_slice_fields Try.underlying25 Try.underlying45 (by kernel_rfl) (by kernel_rfl) hf with ⟨hc, _⟩ | ⟨a, len', cap', m, hc, _, _, hm, hi⟩
  · have e : Value.slice a0 len cap = .slice none 0 0 := by simpa [Value.cells] using hc
    cases e
    exact ⟨[], none, 0, rfl, by simp⟩
  · have e : Value.slice a0 len cap = .slice (some a) len' cap' := by simpa [Value.cells] using hc
    cases e
    have key : ∀ i, i < len → ∃ x : Act, a.spot = none ∧ a.block < w.heap.size ∧ ∀ (j : Nat) (u : Value), (actRow x)[j]? = some u → w.cell? ⟨a.block, a.off + i * 4 + j, none⟩ = some u := by
      intro i hil
      obtain ⟨ys, n, hf⟩ := hi i (by rw [hm]; split <;> omega)
      obtain ⟨v0, y0, c0, _, t0⟩ := hf 0 _ rfl
      obtain ⟨v1, y1, c1, _, t1⟩ := hf 1 _ rfl
      obtain ⟨v2, y2, c2, _, t2⟩ := hf 2 _ rfl
      obtain ⟨v3, y3, c3, _, t3⟩ := hf 3 _ rfl
      obtain ⟨k0, e0, _⟩ := DataW.trod_int Try.underlying3 t0
      obtain ⟨k1, e1, _⟩ := DataW.trod_int Try.underlying2 t1
      obtain ⟨k2, e2, _⟩ := DataW.trod_int Try.underlying3 t2
      obtain ⟨k3, e3, _⟩ := DataW.trod_int Try.underlying3 t3
      cases e0; cases e1; cases e2; cases e3
      obtain ⟨f0, a0, _, _, g0, _⟩ := hi 0 (by rw [hm]; split <;> omega) |>.elim fun ys h => h.elim fun n h => (⟨ys, h 0 _ rfl |>.choose, n, trivial, (h 0 _ rfl).choose_spec.choose_spec.1, trivial⟩ : ∃ (_ : List (DataW H × List MemPlace)) (v : Value) (_ : Nat) (_ : True), w.cell? (a.add (0 * 4 + 0)) = some v ∧ True)
      obtain ⟨s1, s2⟩ := cell_spot (a := a) g0
      refine ⟨⟨k0, k1, k2, k3⟩, s1, s2, fun j u hu => ?_⟩
      match j, hu with
      | 0, hu => simp [actRow] at hu; subst hu; have := cell_add c0 s1; rw [← Nat.add_assoc] at this; exact this
      | 1, hu => simp [actRow] at hu; subst hu; have := cell_add c1 s1; rw [← Nat.add_assoc] at this; exact this
      | 2, hu => simp [actRow] at hu; subst hu; have := cell_add c2 s1; rw [← Nat.add_assoc] at this; exact this
      | 3, hu => simp [actRow] at hu; subst hu; have := cell_add c3 s1; rw [← Nat.add_assoc] at this; exact this
      | j + 4, hu => simp [actRow] at hu
    obtain ⟨l, hl, hp⟩ := pick_list len key
    subst hl
    refine ⟨l, some a, cap, rfl, fun i x hx => ?_⟩
    obtain ⟨s1, s2, s3⟩ := hp i x hx
    refine ⟨a.block, a.off, ?_, s2, s3⟩
    cases a
    simp at s1
    subst s1
    rfl
end

end Go.Proofs.Ytcjklacfoldaoaa
