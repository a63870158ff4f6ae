import Derived.Test.YtcjklacfoldaoaaGreatOneK
import Derived.Test.YtcjklacfoldaoaaGreatRows
import Derived.Test.YtcjklacfoldaoaaGreatPartZ
/- The law FnRollingOne as a contract: it is true. Condition: the calls can be read. -/
namespace Go.Proofs.YtcjklacfoldaoaaGreat
open Go.RowKit
attribute [local go_sem ↓] Go.wp_at_zero Go.wp_at_succ

set_option maxRecDepth 100000 in
set_option maxHeartbeats 4000000 in
theorem FnRollingOne_any (b start : Int) (va : Value) (l : List Call) (w : World) (ha : CallsAt w va l) :
    Calls Tryz.prog 6 #[.int .i64 b, .int .i64 start, va] w fun e w' => e = .returned (.bool true) ∧ Below w.heap.size w w' := by
  have HAT := Lib.hid ha
  obtain ⟨pa, cap, rfl, _⟩ := ha
  by_cases hn : l.length ≤ 2147483647
  · have hnz : (l.length : Int) ≤ 2147483647 := by omega
    by_cases hb : b ≤ 0
    · have hbd : decide (b ≤ 0) = true := by simpa using hb
      clear hb
      go_enter Tryz.func6, Tryz.ntmps6
      go_wp2_with fail
      have B1 := Lib.hid ((Below.refl w.heap.size w).alloc (Nat.le_refl _) (Obj.cells (rulesArr (winR b 0)) 24))
      refine (brWorks_any _).mono ?_
      rintro e wz ⟨rfl, hbz⟩
      go_wp2_with fail
      go_ret
      exact ⟨rfl, B1.out.trans (hbz.mono B1.out.size)⟩
    · have hbd : decide (b ≤ 0) = false := by simpa using hb
      have HB0 := Lib.hid (show 0 < b by omega)
      clear hb
      cases hi : inst l with
      | false =>
        have HI := Lib.hid hi
        clear hi
        go_enter Tryz.func6, Tryz.ntmps6
        go_wp2_with fail
        have B1 := Lib.hid ((Below.refl w.heap.size w).alloc (Nat.le_refl _) (Obj.cells (rulesArr (winR b 0)) 24))
        refine (inst_any _ l _ (HAT.out.below B1.out) hn).mono ?_
        rintro e w2 ⟨rfl, hb2⟩
        rw [HI.out]
        have B2 := Lib.hid (B1.out.trans (hb2.mono B1.out.size))
        go_wp2_with fail
        refine (brWorks_any _).mono ?_
        rintro e wz ⟨rfl, hbz⟩
        go_wp2_with fail
        go_ret
        exact ⟨rfl, B2.out.trans (hbz.mono B2.out.size)⟩
      | true =>
        have HI := Lib.hid hi
        clear hi
        cases hA : areCalls (winR b 0) start l with
        | false =>
          have AA := Lib.hid hA
          clear hA
          go_enter Tryz.func6, Tryz.ntmps6
          go_wp2_with fail
          have B1 := Lib.hid ((Below.refl w.heap.size w).alloc (Nat.le_refl _) (Obj.cells (rulesArr (winR b 0)) 24))
          have R1 := Lib.hid (heap_alloc_new w (Obj.cells (rulesArr (winR b 0)) 24))
          refine (inst_any _ l _ (HAT.out.below B1.out) hn).mono ?_
          rintro e w2 ⟨rfl, hb2⟩
          rw [HI.out]
          have B2 := Lib.hid (B1.out.trans (hb2.mono B1.out.size))
          have R2 := Lib.hid ((hb2.block w.heap.size (size_of_heap R1.out)).trans R1.out)
          clear hb2
          have c2 : ∀ i, w2.cell? ⟨w.heap.size, i, none⟩ = #[.string ⟨#[]⟩, .int .u32 0, .int .i64 b, .int .i64 0, .int .i64 0, .int .i64 5, .int .u32 0, .bool false, .int .u8 0, .bool false, .int .u8 0][i]? := blk_cell R2.out
          have z2 := size_of_heap R2.out
          go_wp2_with fail
          refine (areCalls_any (winR b 0) start _ l _ (winR_ok b 0) (Int.le_refl 0) (show (0 : Int) < 4294967296 by omega) (HAT.out.below B2.out)).mono ?_
          rintro e w3 ⟨rfl, hb3⟩
          rw [AA.out]
          have B3 := Lib.hid (B2.out.trans (hb3.mono B2.out.size))
          clear c2 z2
          go_wp2_with fail
          refine (brWorks_any _).mono ?_
          rintro e wz ⟨rfl, hbz⟩
          go_wp2_with fail
          go_ret
          exact ⟨rfl, B3.out.trans (hbz.mono B3.out.size)⟩
        | true =>
          have AA := Lib.hid hA
          have hq := csaid (winR_ok b 0) hA (Int.le_refl 0) (show (0 : Int) < 4294967296 by omega)
          obtain ⟨q, hqq⟩ : ∃ q, q = SC.run (winR b 0) (SC.start (winR b 0) start) l := ⟨_, rfl⟩
          have HQ := Lib.hid hqq
          rw [← hqq] at hq
          have SA := Lib.hid hq
          have hip : ∀ k ∈ l, k.pan = false := by
            intro k hk
            have hh := HI.out
            unfold inst at hh
            simp only [Bool.and_eq_true] at hh
            exact (instOk_parts (List.all_eq_true.1 hh.1 k hk)).2.2.2.2.2
          have HP := Lib.hid hip
          clear hA hqq hq hip
          go_enter Tryz.func6, Tryz.ntmps6
          go_wp2_with fail
          have B1 := Lib.hid ((Below.refl w.heap.size w).alloc (Nat.le_refl _) (Obj.cells (rulesArr (winR b 0)) 24))
          have R1 := Lib.hid (heap_alloc_new w (Obj.cells (rulesArr (winR b 0)) 24))
          refine (inst_any _ l _ (HAT.out.below B1.out) hn).mono ?_
          rintro e w2 ⟨rfl, hb2⟩
          rw [HI.out]
          have B2 := Lib.hid (B1.out.trans (hb2.mono B1.out.size))
          have R2 := Lib.hid ((hb2.block w.heap.size (size_of_heap R1.out)).trans R1.out)
          clear hb2
          have c2 : ∀ i, w2.cell? ⟨w.heap.size, i, none⟩ = #[.string ⟨#[]⟩, .int .u32 0, .int .i64 b, .int .i64 0, .int .i64 0, .int .i64 5, .int .u32 0, .bool false, .int .u8 0, .bool false, .int .u8 0][i]? := blk_cell R2.out
          have z2 := size_of_heap R2.out
          go_wp2_with fail
          refine (areCalls_any (winR b 0) start _ l _ (winR_ok b 0) (Int.le_refl 0) (show (0 : Int) < 4294967296 by omega) (HAT.out.below B2.out)).mono ?_
          rintro e w3 ⟨rfl, hb3⟩
          rw [AA.out]
          have B3 := Lib.hid (B2.out.trans (hb3.mono B2.out.size))
          have R3 := Lib.hid ((hb3.block w.heap.size (size_of_heap R2.out)).trans R2.out)
          clear c2 z2 hb3
          have c3 : ∀ i, w3.cell? ⟨w.heap.size, i, none⟩ = #[.string ⟨#[]⟩, .int .u32 0, .int .i64 b, .int .i64 0, .int .i64 0, .int .i64 5, .int .u32 0, .bool false, .int .u8 0, .bool false, .int .u8 0][i]? := blk_cell R3.out
          have z3 := size_of_heap R3.out
          go_wp2_with fail
          refine (SA.out.play _ _ (HAT.out.below B3.out)).mono ?_
          rintro e w4 ⟨vo, vc, rfl, ho, hc, hb4⟩
          have HO := Lib.hid ho
          have B4 := Lib.hid (B3.out.trans (hb4.mono B3.out.size))
          clear ho hc hb4 c3 z3
          go_wp2_with fail
          refine (one_play HB0.out AA.out HP.out (HAT.out.below B4.out)).mono ?_
          rintro e w5 ⟨vo2, vc2, st2, rfl, ho2, hb5⟩
          rw [← HQ.out] at ho2
          have HO5 := Lib.hid (own_below HO.out hb5)
          have HO2 := Lib.hid ho2
          have B5 := Lib.hid (B4.out.trans (hb5.mono B4.out.size))
          have el : (q.out.length : Int) = (l.length : Int) := by have := SA.out.len; omega
          have eb : ((q.out.length : Int) == (l.length : Int)) = true := by simpa using el
          have hql : q.out.length ≤ 1000000 := by have := SA.out.len; have := SA.out.short; omega
          clear ho2 hb5 HO el
          obtain ⟨p1, c1, rfl⟩ := row_len HO2.out
          go_wp2_with fail
          refine (sameTold_any _ _ q.out _ _ _ HO2.out HO5.out hql).mono ?_
          rintro e w6 ⟨rfl, hb6⟩
          have B6 := Lib.hid (B5.out.trans (hb6.mono B5.out.size))
          go_wp2_with fail
          refine (brWorks_any _).mono ?_
          rintro e wz ⟨rfl, hbz⟩
          go_wp2_with fail
          go_ret
          exact ⟨rfl, B6.out.trans (hbz.mono B6.out.size)⟩
  · have hnz : ¬ ((l.length : Int) ≤ 2147483647) := by omega
    go_enter Tryz.func6, Tryz.ntmps6
    go_wp2_with fail
    go_ret
    exact ⟨rfl, Below.refl _ _⟩

theorem fnRollingOne_row (b start : Int) (va : Value) (l : List Call) (w : World) (_ : IntKind.i64.min ≤ b ∧ b ≤ IntKind.i64.max) (_ : IntKind.i64.min ≤ start ∧ start ≤ IntKind.i64.max) (ha : CallsAt w va l) :
    Calls Tryz.prog 6 #[.int .i64 b, .int .i64 start, va] w fun e w' => e = .returned (.bool true) ∧ Below w.heap.size w w' := FnRollingOne_any b start va l w ha

end Go.Proofs.YtcjklacfoldaoaaGreat

/- The row of FnRollingOne: it is true whatever the input, and the input reads as it did. No condition. -/
namespace Go.Proofs.YtcjklacfoldaoaaGreat
open Go.ChangeShapes Go.WideShapes Go.ChangeAt Go.RowKit Go.Deep

theorem fnRollingOne_own : ownKnob Tryz.prog.godebug = none := by kernel_rfl
theorem fnRollingOne_laidOut : laidOutB Tryz.prog = true := by kernel_rfl

set_option maxRecDepth 100000 in
theorem fnRollingOne_lifted (os : Os) (started : os.Started) (H : Type) (enc : TypeId × Value → H) :
    ReturnsInHanded {} Tryz.checked os 6 .any (Rows.fnRollingOneSpec.pre6 enc Tryz.prog Tryz.f6 Rows.fnRollingOneRow.domain false) (Rows.fnRollingOneSpec.post enc Tryz.prog Tryz.f6 false true false false) := by
  refine returnsInHanded_of_change (C := Tryz.checked) fnRollingOne_own started (by kernel_rfl) Tryz.func6
    (ChangeSpec.witness6 (enc := enc) (C := Tryz.checked) false ⟨#[], #[.int .i64 0, .int .i64 0, .slice none 0 0], []⟩ 20 (by kernel_rfl) (by kernel_rfl) (by kernel_rfl) (by kernel_rfl)) ?_
  intro W base args ds gs before hval0 hW hcnd _
  have hval : ∀ (j : Nat) t v, Tryz.f6.params[j]? = some t → args[j]? = some v → Value.okWide Tryz.prog W .any base t v := hval0
  have hW' := hW
  obtain ⟨p, q, hA0, hV, rfl, hfz, hnd⟩ := hW
  have hA : DataW.TrodAll enc Tryz.prog W 0 (fun _ => true) true Tryz.f6.params.toList args.toList ds p := hA0
  rw [Tryz.params6] at hA hval
  obtain ⟨v0, vs0, d0, ds0, p0, q0, e0, rfl, rfl, h0, g0⟩ := trodAll_cons hA
  obtain ⟨v1, vs1, d1, ds1, p1, q1, e1, rfl, rfl, h1, g1⟩ := trodAll_cons g0
  obtain ⟨v2, vs2, d2, ds2, p2, q2, e2, rfl, rfl, h2, g2⟩ := trodAll_cons g1
  obtain ⟨rfl, rfl, rfl⟩ := trodAll_nil g2
  obtain ⟨rfl, rfl⟩ := trodVars_none hV
  subst e2
  subst e1
  have ea : args = #[v0, v1, v2] := by cases args; simp at e0; rw [e0]
  subst ea
  clear e0
  have h0k := h0
  have h1k := h1
  have h2k := h2
  obtain ⟨a0, rfl, w0⟩ := open_num Tryz.underlying2 (hval 0 2 v0 rfl rfl) h0
  obtain ⟨a1, rfl, w1⟩ := open_num Tryz.underlying2 (hval 1 2 v1 rfl rfl) h1
  obtain ⟨l2, w2⟩ := open_calls (hval 2 25 v2 rfl rfl) h2
  clear hA0 hval0
  have hlt : ∀ x ∈ p0 ++ (p1 ++ (p2 ++ [])), x.block < W.heap.size := fun x hx => by
    have := hW'.lt x (by simpa using hx)
    simpa using this
  refine (fnRollingOne_row a0 a1 v2 l2 W w0 w1 w2).mono fun e W' ⟨he, bel⟩ => ?_
  subst he
  refine ⟨_, rfl, ?_⟩
  refine ⟨_, _, _, [], p0 ++ (p1 ++ (p2 ++ [])), [], hW', trodAll_mk1 (shut_bool Tryz.underlying4 true), ?_, rfl, bel.frame _, fun h => by cases h⟩
  exact ⟨p0, _, Below.trod fnRollingOne_laidOut (by kernel_rfl) (of_decide_eq_true (by kernel_rfl)) h0k bel (fun x hx => hlt x (by simp [hx])), ⟨p1, _, Below.trod fnRollingOne_laidOut (by kernel_rfl) (of_decide_eq_true (by kernel_rfl)) h1k bel (fun x hx => hlt x (by simp [hx])), ⟨p2, _, Below.trod fnRollingOne_laidOut (by kernel_rfl) (of_decide_eq_true (by kernel_rfl)) h2k bel (fun x hx => hlt x (by simp [hx])), rfl, rfl⟩, rfl⟩, rfl⟩

theorem fnRollingOne_holds : Rows.FnRollingOneSaid :=
  OpenClaim.holds_of_wide 6 Tryz.f6 rfl rfl rfl rfl rfl rfl rfl ⟨rfl, rfl, rfl, rfl, rfl⟩ rfl rfl rfl rfl rfl (by kernel_rfl) Tryz.func6 (by kernel_rfl)
    (of_decide_eq_true (by kernel_rfl)) (by unfold Func.isWrapper; first | (rw [if_pos (by decide +kernel)]; kernel_rfl) | (rw [if_neg (by decide +kernel)]; exact ⟨rfl, rfl⟩))
    (fun os started H enc _ => fnRollingOne_lifted os started H enc)

#print axioms fnRollingOne_holds
end Go.Proofs.YtcjklacfoldaoaaGreat
