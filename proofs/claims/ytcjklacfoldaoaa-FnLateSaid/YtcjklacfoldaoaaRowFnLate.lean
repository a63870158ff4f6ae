/- The row of FnLate: it is true whatever the input, and the input reads as it did. No condition. -/
import Derived.Test.YtcjklacfoldaoaaRows
import Derived.Test.YtcjklacfoldaoaaFnLate
import Derived.Test.YtcjklacfoldaoaaOpen
namespace Go.Proofs.Ytcjklacfoldaoaa
open Go.ChangeShapes Go.WideShapes Go.ChangeAt Go.RowKit Go.Deep

theorem fnLate_own : ownKnob Try.prog.godebug = none := by kernel_rfl
theorem fnLate_laidOut : laidOutB Try.prog = true := by kernel_rfl

set_option maxRecDepth 100000 in
theorem fnLate_lifted (os : Os) (started : os.Started) (H : Type) (enc : TypeId × Value → H) :
    ReturnsInHanded {} Try.checked os 6 .any (Rows.fnLateSpec.pre6 enc Try.prog Try.f6 Rows.fnLateRow.domain false) (Rows.fnLateSpec.post enc Try.prog Try.f6 false true false false) := by
  refine returnsInHanded_of_change (C := Try.checked) fnLate_own started (by kernel_rfl) Try.func6
    (ChangeSpec.witness6 (enc := enc) (C := Try.checked) false ⟨#[], #[.agg #[.string ⟨#[]⟩, .int .u32 0, .int .i64 0, .int .i64 0, .int .i64 0, .int .i64 0, .int .u32 0, .bool false, .int .u8 0, .bool false, .int .u8 0], .int .i64 0, .slice none 0 0, .int .i64 0, .int .i64 0], []⟩ 20 (by kernel_rfl) (by kernel_rfl) (by kernel_rfl) (by kernel_rfl)) ?_
  intro W base args ds gs before hval0 hW hcnd _
  have hval : ∀ (j : Nat) t v, Try.f6.params[j]? = some t → args[j]? = some v → Value.okWide Try.prog W .any base t v := hval0
  have hW' := hW
  obtain ⟨p, q, hA0, hV, rfl, hfz, hnd⟩ := hW
  have hA : DataW.TrodAll enc Try.prog W 0 (fun _ => true) true Try.f6.params.toList args.toList ds p := hA0
  rw [Try.params6] at hA hval
  obtain ⟨v0, vs0, d0, ds0, p0, q0, e0, rfl, rfl, h0, g0⟩ := trodAll_cons hA
  obtain ⟨v1, vs1, d1, ds1, p1, q1, e1, rfl, rfl, h1, g1⟩ := trodAll_cons g0
  obtain ⟨v2, vs2, d2, ds2, p2, q2, e2, rfl, rfl, h2, g2⟩ := trodAll_cons g1
  obtain ⟨v3, vs3, d3, ds3, p3, q3, e3, rfl, rfl, h3, g3⟩ := trodAll_cons g2
  obtain ⟨v4, vs4, d4, ds4, p4, q4, e4, rfl, rfl, h4, g4⟩ := trodAll_cons g3
  obtain ⟨rfl, rfl, rfl⟩ := trodAll_nil g4
  obtain ⟨rfl, rfl⟩ := trodVars_none hV
  subst e4
  subst e3
  subst e2
  subst e1
  have ea : args = #[v0, v1, v2, v3, v4] := by cases args; simp at e0; rw [e0]
  subst ea
  clear e0
  have h0k := h0
  have h1k := h1
  have h2k := h2
  have h3k := h3
  have h4k := h4
  obtain ⟨r0, rfl, w0⟩ := open_rules (hval 0 24 v0 rfl rfl) h0
  obtain ⟨a1, rfl, w1⟩ := open_num Try.underlying2 (hval 1 2 v1 rfl rfl) h1
  obtain ⟨l2, w2⟩ := open_acts (hval 2 25 v2 rfl rfl) h2
  obtain ⟨a3, rfl, w3⟩ := open_num Try.underlying3 (hval 3 3 v3 rfl rfl) h3
  obtain ⟨a4, rfl, w4⟩ := open_num Try.underlying3 (hval 4 3 v4 rfl rfl) h4
  clear hA0 hval0
  have hlt : ∀ x ∈ p0 ++ (p1 ++ (p2 ++ (p3 ++ (p4 ++ [])))), x.block < W.heap.size := fun x hx => by
    have := hW'.lt x (by simpa using hx)
    simpa using this
  refine (fnLate_row r0 a1 v2 l2 a3 a4 W w0 w1 w2 w3 w4).mono fun e W' ⟨he, bel⟩ => ?_
  subst he
  refine ⟨_, rfl, ?_⟩
  refine ⟨_, _, _, [], p0 ++ (p1 ++ (p2 ++ (p3 ++ (p4 ++ [])))), [], hW', trodAll_mk1 (shut_bool Try.underlying4 true), ?_, rfl, bel.frame _, fun h => by cases h⟩
  exact ⟨p0, _, Below.trod fnLate_laidOut (by kernel_rfl) (of_decide_eq_true (by kernel_rfl)) h0k bel (fun x hx => hlt x (by simp [hx])), ⟨p1, _, Below.trod fnLate_laidOut (by kernel_rfl) (of_decide_eq_true (by kernel_rfl)) h1k bel (fun x hx => hlt x (by simp [hx])), ⟨p2, _, Below.trod fnLate_laidOut (by kernel_rfl) (of_decide_eq_true (by kernel_rfl)) h2k bel (fun x hx => hlt x (by simp [hx])), ⟨p3, _, Below.trod fnLate_laidOut (by kernel_rfl) (of_decide_eq_true (by kernel_rfl)) h3k bel (fun x hx => hlt x (by simp [hx])), ⟨p4, _, Below.trod fnLate_laidOut (by kernel_rfl) (of_decide_eq_true (by kernel_rfl)) h4k bel (fun x hx => hlt x (by simp [hx])), rfl, rfl⟩, rfl⟩, rfl⟩, rfl⟩, rfl⟩

theorem fnLate_holds : Rows.FnLateSaid :=
  OpenClaim.holds_of_wide 6 Try.f6 rfl rfl rfl rfl rfl rfl rfl ⟨rfl, rfl, rfl, rfl, rfl⟩ rfl rfl rfl rfl rfl (by kernel_rfl) Try.func6 (by kernel_rfl)
    (of_decide_eq_true (by kernel_rfl)) (by unfold Func.isWrapper; first | (rw [if_pos (by decide +kernel)]; kernel_rfl) | (rw [if_neg (by decide +kernel)]; exact ⟨rfl, rfl⟩))
    (fun os started H enc _ => fnLate_lifted os started H enc)

#print axioms fnLate_holds
end Go.Proofs.Ytcjklacfoldaoaa
