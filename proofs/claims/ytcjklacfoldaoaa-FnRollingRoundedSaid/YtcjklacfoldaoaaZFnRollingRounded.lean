import Derived.Test.YtcjklacfoldaoaaRollZ
import Derived.Test.YtcjklacfoldaoaaRows
import Derived.Test.YtcjklacfoldaoaaOpen
/- The law FnRollingRounded as a contract: it is true. Condition: the calls can be read. -/
namespace Go.Proofs.Ytcjklacfoldaoaa
open Go.RowKit
attribute [local go_sem ↓] Go.wp_at_zero Go.wp_at_succ

set_option maxRecDepth 100000 in
set_option maxHeartbeats 4000000 in
theorem FnRollingRounded_any (n b less start : Int) (va : Value) (l : List Call) (w : World) (ha : CallsAt w va l) :
    Calls Try.prog 14 #[.int .i64 n, .int .i64 b, .int .i64 less, .int .i64 start, va] w fun e w' => e = .returned (.bool true) ∧ Below w.heap.size w w' := by
  have HAT := Lib.hid ha
  obtain ⟨pa, cap, rfl, _⟩ := ha
  obtain ⟨k, hk, k2, k9⟩ := and7i n
  have e0 : IntKind.i64.wrap (k : Int) = (k : Int) := wrapI (by omega) (by omega)
  by_cases hn : l.length ≤ 2147483647
  · have hnz : (l.length : Int) ≤ 2147483647 := by omega
    by_cases c0 : b ≤ 1
    · have d0 : decide (b ≤ 1) = true := by simpa using c0
      clear c0
      go_enter Try.func14, Try.ntmps14
      go_wp2_with fail
      refine (brWorks_any _).mono ?_
      rintro e wz ⟨rfl, hbz⟩
      go_wp2_with fail
      go_ret
      exact ⟨rfl, ((Below.refl _ _).alloc (Nat.le_refl _) _).trans (hbz.mono (by simp))⟩
    · have d0 : decide (b ≤ 1) = false := by simpa using c0
      by_cases c1 : 62500000000000 < b
      · have d1 : decide (62500000000000 < b) = true := by simpa using c1
        clear c0 c1
        go_enter Try.func14, Try.ntmps14
        go_wp2_with fail
        refine (brWorks_any _).mono ?_
        rintro e wz ⟨rfl, hbz⟩
        go_wp2_with fail
        go_ret
        exact ⟨rfl, ((Below.refl _ _).alloc (Nat.le_refl _) _).trans (hbz.mono (by simp))⟩
      · have d1 : decide (62500000000000 < b) = false := by simpa using c1
        by_cases c2 : less ≤ 0
        · have d2 : decide (less ≤ 0) = true := by simpa using c2
          clear c0 c1 c2
          go_enter Try.func14, Try.ntmps14
          go_wp2_with fail
          refine (brWorks_any _).mono ?_
          rintro e wz ⟨rfl, hbz⟩
          go_wp2_with fail
          go_ret
          exact ⟨rfl, ((Below.refl _ _).alloc (Nat.le_refl _) _).trans (hbz.mono (by simp))⟩
        · have d2 : decide (less ≤ 0) = false := by simpa using c2
          by_cases c3 : b ≤ less
          · have d3 : decide (b ≤ less) = true := by simpa using c3
            clear c0 c1 c2 c3
            go_enter Try.func14, Try.ntmps14
            go_wp2_with fail
            refine (brWorks_any _).mono ?_
            rintro e wz ⟨rfl, hbz⟩
            go_wp2_with fail
            go_ret
            exact ⟨rfl, ((Below.refl _ _).alloc (Nat.le_refl _) _).trans (hbz.mono (by simp))⟩
          · have d3 : decide (b ≤ less) = false := by simpa using c3
            have PK := Lib.hid (prod_k k2 k9 (b := b) (by omega) (by omega))
            have e1 : IntKind.i64.wrap ((k : Int) * b) = (k : Int) * b := wrapI (by have := PK.out; omega) (by have := PK.out; omega)
            have e2 : IntKind.i64.wrap ((k : Int) * b - less) = (k : Int) * b - less := wrapI (by have := PK.out; omega) (by have := PK.out; omega)
            have BA := Lib.hid (buck_k (tim := 0) (trip := 5) (bound := 0) k2 k9 (show 0 < b by omega) (by omega) (Int.le_refl 0) (by omega))
            have BB := Lib.hid (buck_k (tim := 0) (trip := 5) (bound := 0) k2 k9 (show 0 < b by omega) (by omega) (show 0 ≤ less by omega) (by omega))
            rw [show (k : Int) * b - 0 = (k : Int) * b by omega] at BA
            clear c0 c1 c2 c3
            cases ht : isTime start with
            | false =>
              have HT := Lib.hid ht
              clear ht
              go_enter Try.func14, Try.ntmps14
              go_wp2_with fail
              refine (isTime_any start _).mono ?_
              rintro e w1 ⟨rfl, rfl⟩
              rw [HT.out]
              go_wp2_with fail
              refine (brWorks_any _).mono ?_
              rintro e wz ⟨rfl, hbz⟩
              go_wp2_with fail
              go_ret
              exact ⟨rfl, ((Below.refl _ _).alloc (Nat.le_refl _) _).trans (hbz.mono (by simp))⟩
            | true =>
              have HT := Lib.hid ht
              clear ht
              cases hi : inst l with
              | false =>
                have HI := Lib.hid hi
                clear hi
                go_enter Try.func14, Try.ntmps14
                go_wp2_with fail
                refine (isTime_any start _).mono ?_
                rintro e w1 ⟨rfl, rfl⟩
                rw [HT.out]
                go_wp2_with fail
                have B1 := Lib.hid ((Below.refl w.heap.size w).alloc (Nat.le_refl _) (Obj.cells (rulesArr (winT ((k : Int) * b) b 0 5 0)) 24))
                refine (inst_any _ l _ (HAT.out.below B1.out) hn).mono ?_
                rintro e w2 ⟨rfl, hb2⟩
                rw [HI.out]
                have B2 := Lib.hid (B1.out.trans (hb2.mono B1.out.size))
                go_wp2_with fail
                refine (brWorks_any _).mono ?_
                rintro e wz ⟨rfl, hbz⟩
                go_wp2_with fail
                go_ret
                exact ⟨rfl, B2.out.trans (hbz.mono B2.out.size)⟩
              | true =>
                have HI := Lib.hid hi
                have hii := hi
                unfold inst at hii
                simp only [Bool.and_eq_true, decide_eq_true_eq] at hii
                have HII := Lib.hid hii
                obtain ⟨q, hq⟩ : ∃ q, q = PC.run (winT ((k : Int) * b) b 0 5 0) (PC.fresh (freshR (winT ((k : Int) * b) b 0 5 0) k) start) l := ⟨_, rfl⟩
                have PA := Lib.hid (fun (W : World) (hW : CallsAt W (Value.slice pa l.length cap) l) => roll_play BA.out k2 (winT_ok _ _ _ _ _) (show (0 : Int) ≤ 1000000000000000000 by omega) (isTime_parts HT.out).1 (isTime_parts HT.out).2 HII.out.1 HII.out.2 hW)
                have PB := Lib.hid (fun (W : World) (hW : CallsAt W (Value.slice pa l.length cap) l) => roll_play BB.out k2 (winT_ok _ _ _ _ _) (show (0 : Int) ≤ 1000000000000000000 by omega) (isTime_parts HT.out).1 (isTime_parts HT.out).2 HII.out.1 HII.out.2 hW)
                have hq2 : q = PC.run (winT ((k : Int) * b - less) b 0 5 0) (PC.fresh (freshR (winT ((k : Int) * b - less) b 0 5 0) k) start) l := hq
                have hlen : q.out.length = l.length := by rw [hq, prun_len]; simp [PC.fresh]
                rw [← hq] at PA
                rw [← hq2] at PB
                have el : (q.out.length : Int) = (l.length : Int) := by omega
                have eb : ((q.out.length : Int) == (l.length : Int)) = true := by simpa using el
                have hql := Lib.hid (show q.out.length ≤ 1000000 by have := HII.out.2; omega)
                clear hi hii hq hq2 hlen el
                go_enter Try.func14, Try.ntmps14
                go_wp2_with fail
                refine (isTime_any start _).mono ?_
                rintro e w1 ⟨rfl, rfl⟩
                rw [HT.out]
                go_wp2_with fail
                have B1 := Lib.hid ((Below.refl w.heap.size w).alloc (Nat.le_refl _) (Obj.cells (rulesArr (winT ((k : Int) * b) b 0 5 0)) 24))
                have R1 := Lib.hid (heap_alloc_new w (Obj.cells (rulesArr (winT ((k : Int) * b) b 0 5 0)) 24))
                refine (inst_any _ l _ (HAT.out.below B1.out) hn).mono ?_
                rintro e w2 ⟨rfl, hb2⟩
                rw [HI.out]
                have B2 := Lib.hid (B1.out.trans (hb2.mono B1.out.size))
                have R2 := Lib.hid ((hb2.block w.heap.size (size_of_heap R1.out)).trans R1.out)
                clear hb2
                have c2 : ∀ i, w2.cell? ⟨w.heap.size, i, none⟩ = #[.string ⟨#[]⟩, .int .u32 0, .int .i64 ((k : Int) * b), .int .i64 b, .int .i64 0, .int .i64 5, .int .u32 0, .bool false, .int .u8 0, .bool false, .int .u8 0][i]? := blk_cell R2.out
                have z2 := size_of_heap R2.out
                go_upto_region 8 with fail
                have R3 := Lib.hid (heap_alloc_lt (o := Obj.cells (rulesArr (winT ((k : Int) * b - less) b 0 5 0)) 24) R2.out)
                have X3 := Lib.hid (heap_alloc_new w2 (Obj.cells (rulesArr (winT ((k : Int) * b - less) b 0 5 0)) 24))
                have B3 := Lib.hid (B2.out.alloc B2.out.size (Obj.cells (rulesArr (winT ((k : Int) * b - less) b 0 5 0)) 24))
                unfold winT rulesArr at R3 X3 B3
                obtain ⟨g3, hg3⟩ : ∃ g3, g3 = w2.heap.size := ⟨_, rfl⟩
                rw [← hg3] at X3
                rw [← hg3]
                clear c2 z2 hg3
                generalize (w2.alloc (Obj.cells #[.string ⟨#[]⟩, .int .u32 0, .int .i64 ((k : Int) * b - less), .int .i64 b, .int .i64 0, .int .i64 5, .int .u32 0, .bool false, .int .u8 0, .bool false, .int .u8 0] 24)) = w3 at *
                have c3 : ∀ i, w3.cell? ⟨w.heap.size, i, none⟩ = #[.string ⟨#[]⟩, .int .u32 0, .int .i64 ((k : Int) * b), .int .i64 b, .int .i64 0, .int .i64 5, .int .u32 0, .bool false, .int .u8 0, .bool false, .int .u8 0][i]? := blk_cell R3.out
                have z3 := size_of_heap R3.out
                go_wp2_with fail
                refine (PA.out _ (HAT.out.below B3.out)).mono ?_
                rintro e w4 ⟨vo, vc, rfl, ho, _, hb4⟩
                have HO := Lib.hid ho
                have B4 := Lib.hid (B3.out.trans (hb4.mono B3.out.size))
                have X4 := Lib.hid ((hb4.block g3 (size_of_heap X3.out)).trans X3.out)
                clear ho hb4 c3 z3
                have c4 : ∀ i, w4.cell? ⟨g3, i, none⟩ = #[.string ⟨#[]⟩, .int .u32 0, .int .i64 ((k : Int) * b - less), .int .i64 b, .int .i64 0, .int .i64 5, .int .u32 0, .bool false, .int .u8 0, .bool false, .int .u8 0][i]? := blk_cell X4.out
                have z4 := size_of_heap X4.out
                go_wp2_with fail
                refine (PB.out _ (HAT.out.below B4.out)).mono ?_
                rintro e w5 ⟨vo2, vc2, rfl, ho2, _, hb5⟩
                have HO5 := Lib.hid (own_below HO.out hb5)
                have HO2 := Lib.hid ho2
                have B5 := Lib.hid (B4.out.trans (hb5.mono B4.out.size))
                clear ho2 hb5 HO c4 z4
                obtain ⟨p1, c1, rfl⟩ := row_len HO2.out
                go_wp2_with fail
                refine (sameTold_any _ _ q.out _ _ _ HO2.out HO5.out hql.out).mono ?_
                rintro e w6 ⟨rfl, hb6⟩
                have B6 := Lib.hid (B5.out.trans (hb6.mono B5.out.size))
                go_wp2_with fail
                refine (brWorks_any _).mono ?_
                rintro e wz ⟨rfl, hbz⟩
                go_wp2_with fail
                go_ret
                exact ⟨rfl, B6.out.trans (hbz.mono B6.out.size)⟩
  · have hnz : ¬ ((l.length : Int) ≤ 2147483647) := by omega
    go_enter Try.func14, Try.ntmps14
    go_wp2_with fail
    go_ret
    exact ⟨rfl, Below.refl _ _⟩

theorem fnRollingRounded_row (n b less start : Int) (va : Value) (l : List Call) (w : World) (_ : IntKind.i64.min ≤ n ∧ n ≤ IntKind.i64.max) (_ : IntKind.i64.min ≤ b ∧ b ≤ IntKind.i64.max) (_ : IntKind.i64.min ≤ less ∧ less ≤ IntKind.i64.max) (_ : IntKind.i64.min ≤ start ∧ start ≤ IntKind.i64.max) (ha : CallsAt w va l) :
    Calls Try.prog 14 #[.int .i64 n, .int .i64 b, .int .i64 less, .int .i64 start, va] w fun e w' => e = .returned (.bool true) ∧ Below w.heap.size w w' := FnRollingRounded_any n b less start va l w ha

end Go.Proofs.Ytcjklacfoldaoaa

/- The row of FnRollingRounded: it is true whatever the input, and the input reads as it did. No condition. -/
namespace Go.Proofs.Ytcjklacfoldaoaa
open Go.ChangeShapes Go.WideShapes Go.ChangeAt Go.RowKit Go.Deep

theorem fnRollingRounded_own : ownKnob Try.prog.godebug = none := by kernel_rfl
theorem fnRollingRounded_laidOut : laidOutB Try.prog = true := by kernel_rfl

set_option maxRecDepth 100000 in
theorem fnRollingRounded_lifted (os : Os) (started : os.Started) (H : Type) (enc : TypeId × Value → H) :
    ReturnsInHanded {} Try.checked os 14 .any (Rows.fnRollingRoundedSpec.pre6 enc Try.prog Try.f14 Rows.fnRollingRoundedRow.domain false) (Rows.fnRollingRoundedSpec.post enc Try.prog Try.f14 false true false false) := by
  refine returnsInHanded_of_change (C := Try.checked) fnRollingRounded_own started (by kernel_rfl) Try.func14
    (ChangeSpec.witness6 (enc := enc) (C := Try.checked) false ⟨#[], #[.int .i64 0, .int .i64 0, .int .i64 0, .int .i64 0, .slice none 0 0], []⟩ 20 (by kernel_rfl) (by kernel_rfl) (by kernel_rfl) (by kernel_rfl)) ?_
  intro W base args ds gs before hval0 hW hcnd _
  have hval : ∀ (j : Nat) t v, Try.f14.params[j]? = some t → args[j]? = some v → Value.okWide Try.prog W .any base t v := hval0
  have hW' := hW
  obtain ⟨p, q, hA0, hV, rfl, hfz, hnd⟩ := hW
  have hA : DataW.TrodAll enc Try.prog W 0 (fun _ => true) true Try.f14.params.toList args.toList ds p := hA0
  rw [Try.params14] at hA hval
  obtain ⟨v0, vs0, d0, ds0, p0, q0, e0, rfl, rfl, h0, g0⟩ := trodAll_cons hA
  obtain ⟨v1, vs1, d1, ds1, p1, q1, e1, rfl, rfl, h1, g1⟩ := trodAll_cons g0
  obtain ⟨v2, vs2, d2, ds2, p2, q2, e2, rfl, rfl, h2, g2⟩ := trodAll_cons g1
  obtain ⟨v3, vs3, d3, ds3, p3, q3, e3, rfl, rfl, h3, g3⟩ := trodAll_cons g2
  obtain ⟨v4, vs4, d4, ds4, p4, q4, e4, rfl, rfl, h4, g4⟩ := trodAll_cons g3
  obtain ⟨rfl, rfl, rfl⟩ := trodAll_nil g4
  obtain ⟨rfl, rfl⟩ := trodVars_none hV
  subst e4
  subst e3
  subst e2
  subst e1
  have ea : args = #[v0, v1, v2, v3, v4] := by cases args; simp at e0; rw [e0]
  subst ea
  clear e0
  have h0k := h0
  have h1k := h1
  have h2k := h2
  have h3k := h3
  have h4k := h4
  obtain ⟨a0, rfl, w0⟩ := open_num Try.underlying3 (hval 0 3 v0 rfl rfl) h0
  obtain ⟨a1, rfl, w1⟩ := open_num Try.underlying2 (hval 1 2 v1 rfl rfl) h1
  obtain ⟨a2, rfl, w2⟩ := open_num Try.underlying2 (hval 2 2 v2 rfl rfl) h2
  obtain ⟨a3, rfl, w3⟩ := open_num Try.underlying2 (hval 3 2 v3 rfl rfl) h3
  obtain ⟨l4, w4⟩ := open_calls (hval 4 58 v4 rfl rfl) h4
  clear hA0 hval0
  have hlt : ∀ x ∈ p0 ++ (p1 ++ (p2 ++ (p3 ++ (p4 ++ [])))), x.block < W.heap.size := fun x hx => by
    have := hW'.lt x (by simpa using hx)
    simpa using this
  refine (fnRollingRounded_row a0 a1 a2 a3 v4 l4 W w0 w1 w2 w3 w4).mono fun e W' ⟨he, bel⟩ => ?_
  subst he
  refine ⟨_, rfl, ?_⟩
  refine ⟨_, _, _, [], p0 ++ (p1 ++ (p2 ++ (p3 ++ (p4 ++ [])))), [], hW', trodAll_mk1 (shut_bool Try.underlying4 true), ?_, rfl, bel.frame _, fun h => by cases h⟩
  exact ⟨p0, _, Below.trod fnRollingRounded_laidOut (by kernel_rfl) (of_decide_eq_true (by kernel_rfl)) h0k bel (fun x hx => hlt x (by simp [hx])), ⟨p1, _, Below.trod fnRollingRounded_laidOut (by kernel_rfl) (of_decide_eq_true (by kernel_rfl)) h1k bel (fun x hx => hlt x (by simp [hx])), ⟨p2, _, Below.trod fnRollingRounded_laidOut (by kernel_rfl) (of_decide_eq_true (by kernel_rfl)) h2k bel (fun x hx => hlt x (by simp [hx])), ⟨p3, _, Below.trod fnRollingRounded_laidOut (by kernel_rfl) (of_decide_eq_true (by kernel_rfl)) h3k bel (fun x hx => hlt x (by simp [hx])), ⟨p4, _, Below.trod fnRollingRounded_laidOut (by kernel_rfl) (of_decide_eq_true (by kernel_rfl)) h4k bel (fun x hx => hlt x (by simp [hx])), rfl, rfl⟩, rfl⟩, rfl⟩, rfl⟩, rfl⟩

theorem fnRollingRounded_holds : Rows.FnRollingRoundedSaid :=
  OpenClaim.holds_of_wide 14 Try.f14 rfl rfl rfl rfl rfl rfl rfl ⟨rfl, rfl, rfl, rfl, rfl⟩ rfl rfl rfl rfl rfl (by kernel_rfl) Try.func14 (by kernel_rfl)
    (of_decide_eq_true (by kernel_rfl)) (by unfold Func.isWrapper; first | (rw [if_pos (by decide +kernel)]; kernel_rfl) | (rw [if_neg (by decide +kernel)]; exact ⟨rfl, rfl⟩))
    (fun os started H enc _ => fnRollingRounded_lifted os started H enc)

#print axioms fnRollingRounded_holds
end Go.Proofs.Ytcjklacfoldaoaa
