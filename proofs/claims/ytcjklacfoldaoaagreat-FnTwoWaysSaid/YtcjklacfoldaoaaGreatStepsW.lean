/- Contract of the statements' Steps. Conditions: the calls can be read and are within the bounds. -/
import Derived.Test.YtcjklacfoldaoaaGreatStepsK
import Derived.Test.YtcjklacfoldaoaaGreatPartZ
import Derived.Deep.DeepCutAuto
import Derived.Deep.LoopGhost
import Derived.Deep.AppendLies
namespace Go.Proofs.YtcjklacfoldaoaaGreat
open Go.RowKit
attribute [local go_sem ↓] Go.wp_at_zero Go.wp_at_succ

theorem infoAct : (Tryz.prog.info? 56).map (fun i => (i.zero, i.size, i.bytes)) = some (some (.agg #[.int .i64 0, .int .i64 0, .int .i64 0, .int .i64 0]), 4, 32) := by kernel_rfl
theorem own_acts {w : World} {base : Nat} {v : Value} {l : List Act} (h : w.ownsRow base 56 4 v l.length (actFlat l)) : ActsAt w v l := by
  by_cases hl : l.length = 0
  · obtain ⟨p, cap, rfl⟩ := row_len h
    refine ⟨p, cap, rfl, fun i x hx => ?_⟩
    rw [List.eq_nil_of_length_eq_zero hl] at hx
    simp at hx
  · obtain ⟨g, cap, cs, rfl, hg, _, _, hc⟩ := row_slice h hl
    exact acts_at hg hc
theorem actFlat_snoc (l : List Act) (a : Act) : actFlat (l ++ [a]) = actFlat l ++ actRow a := by simp [actFlat]
theorem ansFlat_get {l : List Ans} {i : Nat} {x : Ans} (h : l[i]? = some x) {j : Nat} (hj : j < 9) : (ansFlat l)[i * 9 + j]? = (ansRow x)[j]? := by
  induction l generalizing i with
  | nil => simp at h
  | cons a l ih =>
    cases i with
    | zero =>
      simp at h
      subst h
      simp only [ansFlat, List.flatMap_cons, Nat.zero_mul, Nat.zero_add]
      rw [List.getElem?_append_left (by simpa [ansRow] using hj)]
    | succ i =>
      have e : (i + 1) * 9 + j = (ansRow a).length + (i * 9 + j) := by simp [ansRow]; omega
      simp only [ansFlat, List.flatMap_cons]
      rw [e, List.getElem?_append_right (by omega)]
      have := ih (i := i) (by simpa using h)
      simpa [ansFlat] using this
theorem grown_heap {wx wy : World} {row : Option Nat} (g : wx.grownBy wy row) {b : Nat} {x : Obj} (hx : wx.heap[b]? = some x) (hne : row ≠ some b) : wy.heap[b]? = some x := (g.block b (size_of_heap hx) (Ne.symm hne)).trans hx
theorem wrap_small {n : Int} (h0 : 0 ≤ n) (h1 : n ≤ 1000000) : IntKind.i64.wrap n = n := by
  simp [IntKind.wrap, IntKind.signed, IntKind.bits]
  omega

set_option maxRecDepth 100000 in
set_option maxHeartbeats 4000000 in
theorem steps_any (r : Rules) (start : Int) (va : Value) (l : List Call) (w : World) (mild : r.Mild) (rok : r.Ok) (t0 : -1000000000000000 ≤ start) (t1 : start ≤ 1000000000000000)
    (ha : CallsAt w va l) (hl : l.length ≤ 1000) (hok : l.all callOk = true) :
    Calls Tryz.prog 17 #[rulesV r, .int .i64 start, va] w fun e w' => ∃ v, e = .returned v ∧
      w'.ownsRow w.heap.size 56 4 v (stepsT l (SC.run r (SC.start r start) l).out 0).length (actFlat (stepsT l (SC.run r (SC.start r start) l).out 0)) ∧ Below w.heap.size w w' := by
  have HAT := Lib.hid ha
  obtain ⟨pa, cap, rfl, _⟩ := ha
  have TW := Lib.hid (fun (W : World) (hW : CallsAt W (Value.slice pa l.length cap) l) => calls_any r start _ l W mild rok t0 t1 hW hl hok)
  obtain ⟨q, hqq⟩ : ∃ q, q = SC.run r (SC.start r start) l := ⟨_, rfl⟩
  have hlen : q.out.length = l.length := by rw [hqq, (crun_sizes r l (SC.start r start)).1]; simp [SC.start]
  rw [← hqq] at TW ⊢
  clear hqq hok t0 t1 mild rok
  unfold rulesV
  go_enter Tryz.func17, Tryz.ntmps17
  go_wp2_with fail
  have B2 := Lib.hid (((Below.refl _ _).alloc (Nat.le_refl _) _) : Below w.heap.size w (w.alloc (Obj.cells (rulesArr r) 24)))
  refine (TW.out _ (HAT.out.below B2.out)).mono ?_
  rintro e w4 ⟨vo, vc, rfl, hb4, ho, _⟩
  have B4 := Lib.hid (B2.out.trans (hb4.mono B2.out.size))
  have HO := Lib.hid ho
  have HA4 := Lib.hid (HAT.out.below B4.out)
  obtain ⟨po, co, rfl⟩ := row_len ho
  clear ho hb4 B2 TW
  rw [hlen]
  go_wp2_with fail
  go_loopg [11, 12, 26] l.length (fun g s11 s12 s26 wx => ∃ (i n : Nat) (acts : List Act), g = l.length - i ∧ i ≤ l.length ∧ s12 = .int .i64 (n : Int) ∧ s26 = .int .i64 (i : Int) ∧ n ≤ i ∧
    Hid (Below w4.heap.size w4 wx ∧ wx.ownsRow w4.heap.size 56 4 s11 acts.length (actFlat acts) ∧ acts ++ stepsT (l.drop i) (q.out.drop i) n = stepsT l q.out 0 ∧ acts.length ≤ 2 * i))
  case atStart => exact ⟨0, 0, [], rfl, Nat.zero_le _, rfl, rfl, Nat.le_refl _, Lib.hid ⟨Below.refl _ _, World.ownsRow_nil _ _ _ _, rfl, Nat.le_refl _⟩⟩
  case round =>
    obtain ⟨i, n, acts, rfl, hi, rfl, rfl, hni, hh⟩ := hrel
    obtain ⟨hB, hO, hR, hL⟩ := hh.out
    have HB := Lib.hid hB
    have HR := Lib.hid hR
    have HW := Lib.hid hO
    clear hh hB hO hR
    by_cases hin : i < l.length
    · have hiz : (i : Int) < (l.length : Int) := by omega
      have hnw : IntKind.i64.wrap ((n : Int) + 1) = ((n + 1 : Nat) : Int) := by rw [wrap_small (by omega) (by omega)]; omega
      obtain ⟨a, hla⟩ : ∃ a, l[i]? = some a := ⟨_, List.getElem?_eq_getElem hin⟩
      obtain ⟨x, hx⟩ : ∃ x, q.out[i]? = some x := ⟨_, List.getElem?_eq_getElem (by omega)⟩
      have LA := Lib.hid hla
      have LX := Lib.hid hx
      obtain ⟨_, _, he, hacts⟩ := HA4.out
      cases he
      obtain ⟨ab, ao, rfl, hblk, hcell⟩ := hacts i a hla
      obtain ⟨g1, rfl, c1⟩ := row_part HO.out (by omega)
      have hg1 : g1 < w4.heap.size := (HO.out.lt g1 rfl).2
      have T4 := Lib.hid (show w4.cell? ⟨g1, i * 10, none⟩ = some (.bool x.ran) from c1 _ _ ((toldFlat_get hx (j := 0) (by omega)).trans rfl))
      have hbc := fun j u hj => (HB.out.cell (p := ⟨ab, ao + i * 5 + j, none⟩) hblk).trans (hcell j u hj)
      have k0 : wr.cell? ⟨ab, ao + i * 5, none⟩ = some (.int .i64 a.wait) := hbc 0 _ rfl
      have k1 := hbc 1 _ rfl
      have k2 := hbc 2 _ rfl
      have k3 := hbc 3 _ rfl
      have k4 := hbc 4 _ rfl
      clear hbc hcell hla hx hacts c1
      go_upto_region 7 with fail
      have HB2 := Lib.hid (HB.out.alloc HB.out.size (Obj.cells (callArr a) 36))
      have HW2 := Lib.hid (owns_keep HW.out fun g hg => ((Below.refl wr.heap.size wr).alloc (Nat.le_refl _) (Obj.cells (callArr a) 36)).block g (HW.out.lt g hg).2)
      have HX := Lib.hid (heap_alloc_new wr (Obj.cells (callArr a) 36))
      have UN := Lib.hid (show u11.ownBlock ≠ some wr.heap.size from fun h => absurd (HW.out.lt _ h).2 (Nat.lt_irrefl _))
      unfold callArr at HB2 HW2 HX
      obtain ⟨ba, hba⟩ : ∃ k, k = wr.heap.size := ⟨_, rfl⟩
      rw [← hba] at HX UN
      rw [← hba]
      have hba4 : w4.heap.size ≤ ba := by rw [hba]; exact HB.out.size
      clear k0 k1 k2 k3 k4 hba
      generalize (wr.alloc (Obj.cells #[Value.int IntKind.i64 a.wait, Value.int IntKind.i64 a.long, Value.int IntKind.i64 a.val, Value.int IntKind.i64 a.err, Value.bool a.pan] 36)) = W2 at *
      have x2 := blk_cell HX.out
      have z2 := size_of_heap HX.out
      obtain ⟨i0, hi0, hz0, hz1, hz2⟩ := info_parts infoAct
      have hbase := HB2.out.size
      go_upto_region 8 with (refine wpList_append_lies _ (by rfl) _ _ _ (by rfl) w4.heap.size 56 i0 (.agg #[.int .i64 0, .int .i64 0, .int .i64 0, .int .i64 0]) 4 32 Tryz.underlying48 hi0 hz0 hz1 hz2 rfl (by omega) u11 acts.length (actFlat acts) (by rfl) (HW2.out.alloc _) ⟨W2.heap.size, 0, none⟩ 1 1 (actRow ⟨1, a.wait, 0, 0⟩) (by rfl) rfl (World.news_of_block (heap_alloc_new W2 _)) (by intro u hu; simp [actRow] at hu; rcases hu with rfl | rfl | rfl | rfl <;> rfl) (by omega) (by unfold maxLen; omega) (by omega) (by simp; omega) (W2.heap.size + 1) (by simp) ?_; intro g cp wA hown hgrow hat hlt)
      have HBA := Lib.hid ((HB2.out.alloc hbase (Obj.cells #[Value.int IntKind.i64 1, Value.int IntKind.i64 a.wait, Value.int IntKind.i64 0, Value.int IntKind.i64 0] 56)).grown hgrow (by simp; omega) (fun k hk => (HW2.out.lt k hk).1))
      have HXA := Lib.hid (grown_heap hgrow (heap_alloc_lt HX.out) UN.out)
      have hgb : g ≠ ba := by
        rintro rfl
        rcases hat with e | e
        · exact UN.out e
        · omega
      have hown' : wA.ownsRow w4.heap.size 56 4 (.slice (some ⟨g, 0, none⟩) (acts.length + 1) cp) (acts ++ [(⟨1, a.wait, 0, 0⟩ : Act)]).length (actFlat (acts ++ [(⟨1, a.wait, 0, 0⟩ : Act)])) := by
        rw [actFlat_snoc, List.length_append]; exact hown
      have HWA := Lib.hid hown'
      clear hown hown' hgrow hat x2 z2 HB2 HW2 HX UN HW hbase
      have xA := blk_cell HXA.out
      have zA := size_of_heap HXA.out
      have tA := (HBA.out.cell (p := ⟨g1, i * 10, none⟩) hg1).trans T4.out
      have hbase := HBA.out.size
      cases hran : x.ran with
      | true =>
        have RAN := Lib.hid hran
        rw [hran] at tA
        clear hran
        go_wp2_with (refine wpList_append_lies _ (by rfl) _ _ _ (by rfl) w4.heap.size 56 i0 (.agg #[.int .i64 0, .int .i64 0, .int .i64 0, .int .i64 0]) 4 32 Tryz.underlying48 hi0 hz0 hz1 hz2 rfl (by omega) (.slice (some ⟨g, 0, none⟩) (acts.length + 1) cp) (acts.length + 1) (actFlat (acts ++ [(⟨1, a.wait, 0, 0⟩ : Act)])) (by rfl) ((by rw [List.length_append] at HWA; exact HWA.out.alloc _)) ⟨wA.heap.size, 0, none⟩ 1 1 (actRow ⟨2, a.long, (n : Int), a.err⟩) (by rfl) rfl (World.news_of_block (heap_alloc_new wA _)) (by intro u hu; simp [actRow] at hu; rcases hu with rfl | rfl | rfl | rfl <;> rfl) (by omega) (by unfold maxLen; omega) (by omega) (by simp; omega) (wA.heap.size + 1) (by simp) ?_; intro g2 cp2 wB hown2 hgrow2 hat2 hlt2)
        go_roundg (l.length - (i + 1))
        case measure => omega
        case rel =>
          refine ⟨i + 1, n + 1, acts ++ [⟨1, a.wait, 0, 0⟩] ++ [⟨2, a.long, (n : Int), a.err⟩], rfl, hin, by first | rfl | exact congrArg _ hnw | (simp; done), by first | rfl | (simp; done), by omega, Lib.hid ⟨?_, ?_, ?_, ?_⟩⟩
          · exact (HBA.out.alloc hbase (Obj.cells #[Value.int IntKind.i64 2, Value.int IntKind.i64 a.long, Value.int IntKind.i64 (n : Int), Value.int IntKind.i64 a.err] 56)).grown hgrow2 (by simp; omega) (fun k hk => (HWA.out.lt k hk).1)
          · rw [actFlat_snoc, List.length_append, List.length_append]; exact hown2
          · rw [← HR.out, stepsT_drop n LA.out LX.out, RAN.out]; simp
          · simp; omega
      | false =>
        have RAN := Lib.hid hran
        rw [hran] at tA
        clear hran
        go_wp2_with fail
        go_roundg (l.length - (i + 1))
        case measure => omega
        case rel =>
          refine ⟨i + 1, n, acts ++ [⟨1, a.wait, 0, 0⟩], rfl, hin, rfl, by first | rfl | (simp; done), by omega, Lib.hid ⟨HBA.out, HWA.out, ?_, ?_⟩⟩
          · rw [← HR.out, stepsT_drop n LA.out LX.out, RAN.out]; simp
          · simp; omega
    · have hiz : ¬ ((i : Int) < (l.length : Int)) := by omega
      have hieq : i = l.length := by omega
      have HF := Lib.hid (show acts = stepsT l q.out 0 by
        rw [← HR.out, hieq, List.drop_length]
        cases q.out.drop l.length <;> simp [stepsT])
      clear hieq
      go_wp2_with fail
      go_ret
      refine ⟨u11, rfl, ?_, B4.out.trans (HB.out.mono B4.out.size)⟩
      rw [← HF.out]
      exact owns_base HW.out fun g hg => Nat.le_trans B4.out.size (HW.out.lt g hg).1

end Go.Proofs.YtcjklacfoldaoaaGreat
