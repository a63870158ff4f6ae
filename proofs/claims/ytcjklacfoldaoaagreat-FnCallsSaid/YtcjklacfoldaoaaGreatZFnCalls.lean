import Derived.Test.YtcjklacfoldaoaaGreatPartZ
import Derived.Test.YtcjklacfoldaoaaGreatRows
/- The law FnCalls as a contract: it is true. Conditions: the calls can be read, the rules' numbers are in their types' ranges. -/
namespace Go.Proofs.YtcjklacfoldaoaaGreat
open Go.RowKit
attribute [local go_sem ↓] Go.wp_at_zero Go.wp_at_succ

set_option maxRecDepth 100000 in
set_option maxHeartbeats 4000000 in
theorem FnCalls_any (r : Rules) (start : Int) (va : Value) (l : List Call) (w : World) (rok : r.Ok) (m0 : 0 ≤ r.most) (m1 : r.most < 4294967296) (ha : CallsAt w va l) :
    Calls Tryz.prog 4 #[rulesV r, .int .i64 start, va] w fun e w' => e = .returned (.bool true) ∧ Below w.heap.size w w' := by
  have HAT := Lib.hid ha
  obtain ⟨pa, cap, rfl, _⟩ := ha
  have RO := Lib.hid rok
  clear rok
  unfold rulesV
  by_cases hf : r.name.size ≤ 2147483647
  · by_cases hn : l.length ≤ 2147483647
    · have hnz : (l.length : Int) ≤ 2147483647 := by omega
      cases hA : areCalls r start l with
      | false =>
        have AA := Lib.hid hA
        clear hA
        go_enter Tryz.func4, Tryz.ntmps4
        go_wp2_with fail
        refine (fits_yes r _ hf).mono ?_
        rintro e w2 ⟨rfl, hb2⟩
        have B2 := Lib.hid (((Below.refl _ _).alloc (Nat.le_refl _) _).trans (hb2.mono (by simp)) : Below w.heap.size w w2)
        have R2 := Lib.hid ((hb2.block w.heap.size (by simp)).trans (heap_alloc_new w (Obj.cells (rulesArr r) 24)))
        clear hb2
        have c2 : ∀ i, w2.cell? ⟨w.heap.size, i, none⟩ = #[.string r.name, .int .u32 r.most, .int .i64 r.interval, .int .i64 r.bucket, .int .i64 r.timeout, .int .i64 r.trip, .int .u32 r.bound, .bool r.hasGood, .int .u8 r.good, .bool r.hasOut, .int .u8 r.out][i]? := blk_cell R2.out
        have z2 := size_of_heap R2.out
        go_wp2_with fail
        refine (areCalls_any r start _ l _ RO.out m0 m1 (HAT.out.below B2.out)).mono ?_
        rintro e w3 ⟨rfl, hb3⟩
        rw [AA.out]
        have B3 := Lib.hid (B2.out.trans (hb3.mono B2.out.size))
        have R3 := Lib.hid ((hb3.block w.heap.size (size_of_heap R2.out)).trans R2.out)
        clear hb3 c2 z2
        have c3 : ∀ i, w3.cell? ⟨w.heap.size, i, none⟩ = #[.string r.name, .int .u32 r.most, .int .i64 r.interval, .int .i64 r.bucket, .int .i64 r.timeout, .int .i64 r.trip, .int .u32 r.bound, .bool r.hasGood, .int .u8 r.good, .bool r.hasOut, .int .u8 r.out][i]? := blk_cell R3.out
        have z3 := size_of_heap R3.out
        go_wp2_with fail
        refine (brWorks_any _).mono ?_
        rintro e wz ⟨rfl, hbz⟩
        go_wp2_with fail
        go_ret
        exact ⟨rfl, B3.out.trans (hbz.mono B3.out.size)⟩
      | true =>
        have AA := Lib.hid hA
        have hq := csaid RO.out hA m0 m1
        obtain ⟨q, hqq⟩ : ∃ q, q = SC.run r (SC.start r start) l := ⟨_, rfl⟩
        have HQ := Lib.hid hqq
        rw [← hqq] at hq
        clear hqq
        have SA := Lib.hid hq
        clear hA hq
        go_enter Tryz.func4, Tryz.ntmps4
        go_wp2_with fail
        refine (fits_yes r _ hf).mono ?_
        rintro e w2 ⟨rfl, hb2⟩
        have B2 := Lib.hid (((Below.refl _ _).alloc (Nat.le_refl _) _).trans (hb2.mono (by simp)) : Below w.heap.size w w2)
        have R2 := Lib.hid ((hb2.block w.heap.size (by simp)).trans (heap_alloc_new w (Obj.cells (rulesArr r) 24)))
        clear hb2
        have c2 : ∀ i, w2.cell? ⟨w.heap.size, i, none⟩ = #[.string r.name, .int .u32 r.most, .int .i64 r.interval, .int .i64 r.bucket, .int .i64 r.timeout, .int .i64 r.trip, .int .u32 r.bound, .bool r.hasGood, .int .u8 r.good, .bool r.hasOut, .int .u8 r.out][i]? := blk_cell R2.out
        have z2 := size_of_heap R2.out
        go_wp2_with fail
        refine (areCalls_any r start _ l _ RO.out m0 m1 (HAT.out.below B2.out)).mono ?_
        rintro e w3 ⟨rfl, hb3⟩
        rw [AA.out]
        have B3 := Lib.hid (B2.out.trans (hb3.mono B2.out.size))
        have R3 := Lib.hid ((hb3.block w.heap.size (size_of_heap R2.out)).trans R2.out)
        clear hb3 c2 z2
        have c3 : ∀ i, w3.cell? ⟨w.heap.size, i, none⟩ = #[.string r.name, .int .u32 r.most, .int .i64 r.interval, .int .i64 r.bucket, .int .i64 r.timeout, .int .i64 r.trip, .int .u32 r.bound, .bool r.hasGood, .int .u8 r.good, .bool r.hasOut, .int .u8 r.out][i]? := blk_cell R3.out
        have z3 := size_of_heap R3.out
        have TW := Lib.hid (fun (W : World) (hW : CallsAt W (Value.slice pa l.length cap) l) => calls_any r start _ l W (mild_of (areCalls_parts AA.out).1 m0 m1) RO.out (isTime_parts (areCalls_parts AA.out).2.1).1 (isTime_parts (areCalls_parts AA.out).2.1).2 hW SA.out.short (areCalls_parts AA.out).2.2.2.1)
        rw [← HQ.out, SA.out.fin] at TW
        go_wp2_with fail
        refine (TW.out _ (HAT.out.below B3.out)).mono ?_
        rintro e w4 ⟨vo, vc, rfl, hb4, ho, hc⟩
        have B4 := Lib.hid (B3.out.trans (hb4.mono B3.out.size))
        have R4 := Lib.hid ((hb4.block w.heap.size (size_of_heap R3.out)).trans R3.out)
        clear hb4 c3 z3
        have c4 : ∀ i, w4.cell? ⟨w.heap.size, i, none⟩ = #[.string r.name, .int .u32 r.most, .int .i64 r.interval, .int .i64 r.bucket, .int .i64 r.timeout, .int .i64 r.trip, .int .u32 r.bound, .bool r.hasGood, .int .u8 r.good, .bool r.hasOut, .int .u8 r.out][i]? := blk_cell R4.out
        have z4 := size_of_heap R4.out
        have HO := Lib.hid ho
        have HC := Lib.hid hc
        clear ho hc
        go_wp2_with fail
        refine (SA.out.play _ _ (HAT.out.below B4.out)).mono ?_
        rintro e w5 ⟨vo2, vc2, rfl, ho2, hc2, hb5⟩
        have HO2 := Lib.hid ho2
        have HC2 := Lib.hid hc2
        have HO3 := Lib.hid (own_below HO.out hb5)
        have HC3 := Lib.hid (own_below HC.out hb5)
        clear ho2 hc2
        have B5 := Lib.hid (B4.out.trans (hb5.mono B4.out.size))
        have R5 := Lib.hid ((hb5.block w.heap.size (size_of_heap R4.out)).trans R4.out)
        clear hb5 c4 z4
        have c5 : ∀ i, w5.cell? ⟨w.heap.size, i, none⟩ = #[.string r.name, .int .u32 r.most, .int .i64 r.interval, .int .i64 r.bucket, .int .i64 r.timeout, .int .i64 r.trip, .int .u32 r.bound, .bool r.hasGood, .int .u8 r.good, .bool r.hasOut, .int .u8 r.out][i]? := blk_cell R5.out
        have z5 := size_of_heap R5.out
        go_wp2_with fail
        refine (sameTold_any _ _ q.out _ _ _ HO2.out HO3.out (by have := SA.out.len; have := SA.out.short; omega)).mono ?_
        rintro e w6 ⟨rfl, hb6⟩
        have HC4 := Lib.hid (own_below HC2.out hb6)
        have HC5 := Lib.hid (own_below HC3.out hb6)
        have B6 := Lib.hid (B5.out.trans (hb6.mono B5.out.size))
        have R6 := Lib.hid ((hb6.block w.heap.size (size_of_heap R5.out)).trans R5.out)
        clear hb6 c5 z5
        have c6 : ∀ i, w6.cell? ⟨w.heap.size, i, none⟩ = #[.string r.name, .int .u32 r.most, .int .i64 r.interval, .int .i64 r.bucket, .int .i64 r.timeout, .int .i64 r.trip, .int .u32 r.bound, .bool r.hasGood, .int .u8 r.good, .bool r.hasOut, .int .u8 r.out][i]? := blk_cell R6.out
        have z6 := size_of_heap R6.out
        go_wp2_with fail
        refine (sameChanges_any _ _ q.s.chs _ _ _ HC4.out HC5.out (by have := SA.out.chs; omega)).mono ?_
        rintro e w7 ⟨rfl, hb7⟩
        have B7 := Lib.hid (B6.out.trans (hb7.mono B6.out.size))
        have R7 := Lib.hid ((hb7.block w.heap.size (size_of_heap R6.out)).trans R6.out)
        clear hb7 c6 z6
        have c7 : ∀ i, w7.cell? ⟨w.heap.size, i, none⟩ = #[.string r.name, .int .u32 r.most, .int .i64 r.interval, .int .i64 r.bucket, .int .i64 r.timeout, .int .i64 r.trip, .int .u32 r.bound, .bool r.hasGood, .int .u8 r.good, .bool r.hasOut, .int .u8 r.out][i]? := blk_cell R7.out
        have z7 := size_of_heap R7.out
        go_wp2_with fail
        refine (brWorks_any _).mono ?_
        rintro e wz ⟨rfl, hbz⟩
        go_wp2_with fail
        go_ret
        exact ⟨rfl, B7.out.trans (hbz.mono B7.out.size)⟩
    · have hnz : ¬ ((l.length : Int) ≤ 2147483647) := by omega
      go_enter Tryz.func4, Tryz.ntmps4
      go_wp2_with fail
      refine (fits_yes r _ hf).mono ?_
      rintro e w2 ⟨rfl, hb2⟩
      have B2 := Lib.hid (((Below.refl _ _).alloc (Nat.le_refl _) _).trans (hb2.mono (by simp)) : Below w.heap.size w w2)
      have R2 := Lib.hid ((hb2.block w.heap.size (by simp)).trans (heap_alloc_new w (Obj.cells (rulesArr r) 24)))
      clear hb2
      have c2 : ∀ i, w2.cell? ⟨w.heap.size, i, none⟩ = #[.string r.name, .int .u32 r.most, .int .i64 r.interval, .int .i64 r.bucket, .int .i64 r.timeout, .int .i64 r.trip, .int .u32 r.bound, .bool r.hasGood, .int .u8 r.good, .bool r.hasOut, .int .u8 r.out][i]? := blk_cell R2.out
      have z2 := size_of_heap R2.out
      go_wp2_with fail
      go_ret
      exact ⟨rfl, B2.out⟩
  · skip
    go_enter Tryz.func4, Tryz.ntmps4
    go_wp2_with fail
    refine (fits_no r _ hf).mono ?_
    rintro e w2 ⟨rfl, hb2⟩
    have B2 := Lib.hid (((Below.refl _ _).alloc (Nat.le_refl _) _).trans (hb2.mono (by simp)) : Below w.heap.size w w2)
    have R2 := Lib.hid ((hb2.block w.heap.size (by simp)).trans (heap_alloc_new w (Obj.cells (rulesArr r) 24)))
    clear hb2
    go_wp2_with fail
    go_ret
    exact ⟨rfl, B2.out⟩

theorem fnCalls_row (r : Rules) (start : Int) (va : Value) (l : List Call) (w : World) (h : RulesIn r) (_ : IntKind.i64.min ≤ start ∧ start ≤ IntKind.i64.max) (ha : CallsAt w va l) :
    Calls Tryz.prog 4 #[rulesV r, .int .i64 start, va] w fun e w' => e = .returned (.bool true) ∧ Below w.heap.size w w' := FnCalls_any r start va l w h.ok h.m0 h.m1 ha

end Go.Proofs.YtcjklacfoldaoaaGreat

/- The row of FnCalls: it is true whatever the input, and the input reads as it did. No condition. -/
namespace Go.Proofs.YtcjklacfoldaoaaGreat
open Go.ChangeShapes Go.WideShapes Go.ChangeAt Go.RowKit Go.Deep

theorem fnCalls_own : ownKnob Tryz.prog.godebug = none := by kernel_rfl
theorem fnCalls_laidOut : laidOutB Tryz.prog = true := by kernel_rfl

set_option maxRecDepth 100000 in
theorem fnCalls_lifted (os : Os) (started : os.Started) (H : Type) (enc : TypeId × Value → H) :
    ReturnsInHanded {} Tryz.checked os 4 .any (Rows.fnCallsSpec.pre6 enc Tryz.prog Tryz.f4 Rows.fnCallsRow.domain false) (Rows.fnCallsSpec.post enc Tryz.prog Tryz.f4 false true false false) := by
  refine returnsInHanded_of_change (C := Tryz.checked) fnCalls_own started (by kernel_rfl) Tryz.func4
    (ChangeSpec.witness6 (enc := enc) (C := Tryz.checked) false ⟨#[], #[.agg #[.string ⟨#[]⟩, .int .u32 0, .int .i64 0, .int .i64 0, .int .i64 0, .int .i64 0, .int .u32 0, .bool false, .int .u8 0, .bool false, .int .u8 0], .int .i64 0, .slice none 0 0], []⟩ 20 (by kernel_rfl) (by kernel_rfl) (by kernel_rfl) (by kernel_rfl)) ?_
  intro W base args ds gs before hval0 hW hcnd _
  have hval : ∀ (j : Nat) t v, Tryz.f4.params[j]? = some t → args[j]? = some v → Value.okWide Tryz.prog W .any base t v := hval0
  have hW' := hW
  obtain ⟨p, q, hA0, hV, rfl, hfz, hnd⟩ := hW
  have hA : DataW.TrodAll enc Tryz.prog W 0 (fun _ => true) true Tryz.f4.params.toList args.toList ds p := hA0
  rw [Tryz.params4] at hA hval
  obtain ⟨v0, vs0, d0, ds0, p0, q0, e0, rfl, rfl, h0, g0⟩ := trodAll_cons hA
  obtain ⟨v1, vs1, d1, ds1, p1, q1, e1, rfl, rfl, h1, g1⟩ := trodAll_cons g0
  obtain ⟨v2, vs2, d2, ds2, p2, q2, e2, rfl, rfl, h2, g2⟩ := trodAll_cons g1
  obtain ⟨rfl, rfl, rfl⟩ := trodAll_nil g2
  obtain ⟨rfl, rfl⟩ := trodVars_none hV
  subst e2
  subst e1
  have ea : args = #[v0, v1, v2] := by cases args; simp at e0; rw [e0]
  subst ea
  clear e0
  have h0k := h0
  have h1k := h1
  have h2k := h2
  obtain ⟨r0, rfl, w0⟩ := open_rules (hval 0 24 v0 rfl rfl) h0
  obtain ⟨a1, rfl, w1⟩ := open_num Tryz.underlying2 (hval 1 2 v1 rfl rfl) h1
  obtain ⟨l2, w2⟩ := open_calls (hval 2 25 v2 rfl rfl) h2
  clear hA0 hval0
  have hlt : ∀ x ∈ p0 ++ (p1 ++ (p2 ++ [])), x.block < W.heap.size := fun x hx => by
    have := hW'.lt x (by simpa using hx)
    simpa using this
  refine (fnCalls_row r0 a1 v2 l2 W w0 w1 w2).mono fun e W' ⟨he, bel⟩ => ?_
  subst he
  refine ⟨_, rfl, ?_⟩
  refine ⟨_, _, _, [], p0 ++ (p1 ++ (p2 ++ [])), [], hW', trodAll_mk1 (shut_bool Tryz.underlying4 true), ?_, rfl, bel.frame _, fun h => by cases h⟩
  exact ⟨p0, _, Below.trod fnCalls_laidOut (by kernel_rfl) (of_decide_eq_true (by kernel_rfl)) h0k bel (fun x hx => hlt x (by simp [hx])), ⟨p1, _, Below.trod fnCalls_laidOut (by kernel_rfl) (of_decide_eq_true (by kernel_rfl)) h1k bel (fun x hx => hlt x (by simp [hx])), ⟨p2, _, Below.trod fnCalls_laidOut (by kernel_rfl) (of_decide_eq_true (by kernel_rfl)) h2k bel (fun x hx => hlt x (by simp [hx])), rfl, rfl⟩, rfl⟩, rfl⟩

theorem fnCalls_holds : Rows.FnCallsSaid :=
  OpenClaim.holds_of_wide 4 Tryz.f4 rfl rfl rfl rfl rfl rfl rfl ⟨rfl, rfl, rfl, rfl, rfl⟩ rfl rfl rfl rfl rfl (by kernel_rfl) Tryz.func4 (by kernel_rfl)
    (of_decide_eq_true (by kernel_rfl)) (by unfold Func.isWrapper; first | (rw [if_pos (by decide +kernel)]; kernel_rfl) | (rw [if_neg (by decide +kernel)]; exact ⟨rfl, rfl⟩))
    (fun os started H enc _ => fnCalls_lifted os started H enc)

#print axioms fnCalls_holds
end Go.Proofs.YtcjklacfoldaoaaGreat
