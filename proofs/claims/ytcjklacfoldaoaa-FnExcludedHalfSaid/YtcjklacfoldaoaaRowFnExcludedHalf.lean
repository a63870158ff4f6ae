/- The row of FnExcludedHalf: it is true whatever the input, and the input reads as it did. No condition. -/
import Derived.Test.YtcjklacfoldaoaaRows
import Derived.Test.YtcjklacfoldaoaaFnExcludedHalf
import Derived.Test.YtcjklacfoldaoaaOpen
namespace Go.Proofs.Ytcjklacfoldaoaa
open Go.ChangeShapes Go.WideShapes Go.ChangeAt Go.RowKit Go.Deep

theorem fnExcludedHalf_own : ownKnob Try.prog.godebug = none := by kernel_rfl
theorem fnExcludedHalf_laidOut : laidOutB Try.prog = true := by kernel_rfl

set_option maxRecDepth 100000 in
theorem fnExcludedHalf_lifted (os : Os) (started : os.Started) (H : Type) (enc : TypeId × Value → H) :
    ReturnsInHanded {} Try.checked os 12 .any (Rows.fnExcludedHalfSpec.pre6 enc Try.prog Try.f12 Rows.fnExcludedHalfRow.domain false) (Rows.fnExcludedHalfSpec.post enc Try.prog Try.f12 false true false false) := by
  refine returnsInHanded_of_change (C := Try.checked) fnExcludedHalf_own started (by kernel_rfl) Try.func12
    (ChangeSpec.witness6 (enc := enc) (C := Try.checked) false ⟨#[], #[.int .u32 0, .int .i64 0], []⟩ 20 (by kernel_rfl) (by kernel_rfl) (by kernel_rfl) (by kernel_rfl)) ?_
  intro W base args ds gs before hval0 hW hcnd _
  have hval : ∀ (j : Nat) t v, Try.f12.params[j]? = some t → args[j]? = some v → Value.okWide Try.prog W .any base t v := hval0
  have hW' := hW
  obtain ⟨p, q, hA0, hV, rfl, hfz, hnd⟩ := hW
  have hA : DataW.TrodAll enc Try.prog W 0 (fun _ => true) true Try.f12.params.toList args.toList ds p := hA0
  rw [Try.params12] at hA hval
  obtain ⟨v0, vs0, d0, ds0, p0, q0, e0, rfl, rfl, h0, g0⟩ := trodAll_cons hA
  obtain ⟨v1, vs1, d1, ds1, p1, q1, e1, rfl, rfl, h1, g1⟩ := trodAll_cons g0
  obtain ⟨rfl, rfl, rfl⟩ := trodAll_nil g1
  obtain ⟨rfl, rfl⟩ := trodVars_none hV
  subst e1
  have ea : args = #[v0, v1] := by cases args; simp at e0; rw [e0]
  subst ea
  clear e0
  have h0k := h0
  have h1k := h1
  obtain ⟨a0, rfl, w0⟩ := open_num Try.underlying22 (hval 0 22 v0 rfl rfl) h0
  obtain ⟨a1, rfl, w1⟩ := open_num Try.underlying3 (hval 1 3 v1 rfl rfl) h1
  clear hA0 hval0
  have hlt : ∀ x ∈ p0 ++ (p1 ++ []), x.block < W.heap.size := fun x hx => by
    have := hW'.lt x (by simpa using hx)
    simpa using this
  refine (fnExcludedHalf_row a0 a1 W w0 w1).mono fun e W' ⟨he, bel⟩ => ?_
  subst he
  refine ⟨_, rfl, ?_⟩
  refine ⟨_, _, _, [], p0 ++ (p1 ++ []), [], hW', trodAll_mk1 (shut_bool Try.underlying4 true), ?_, rfl, bel.frame _, fun h => by cases h⟩
  exact ⟨p0, _, Below.trod fnExcludedHalf_laidOut (by kernel_rfl) (of_decide_eq_true (by kernel_rfl)) h0k bel (fun x hx => hlt x (by simp [hx])), ⟨p1, _, Below.trod fnExcludedHalf_laidOut (by kernel_rfl) (of_decide_eq_true (by kernel_rfl)) h1k bel (fun x hx => hlt x (by simp [hx])), rfl, rfl⟩, rfl⟩

theorem fnExcludedHalf_holds : Rows.FnExcludedHalfSaid :=
  OpenClaim.holds_of_wide 12 Try.f12 rfl rfl rfl rfl rfl rfl rfl ⟨rfl, rfl, rfl, rfl, rfl⟩ rfl rfl rfl rfl rfl (by kernel_rfl) Try.func12 (by kernel_rfl)
    (of_decide_eq_true (by kernel_rfl)) (by unfold Func.isWrapper; first | (rw [if_pos (by decide +kernel)]; kernel_rfl) | (rw [if_neg (by decide +kernel)]; exact ⟨rfl, rfl⟩))
    (fun os started H enc _ => fnExcludedHalf_lifted os started H enc)

#print axioms fnExcludedHalf_holds
end Go.Proofs.Ytcjklacfoldaoaa
