/- Contract of the statements' TwoStep. Conditions: the rules and the acts are within the bounds. -/
import Derived.Test.YtcjklacfoldaoaaSpecL
import Derived.Test.YtcjklacfoldaoaaLaw
import Derived.Deep.DeepCutAuto
import Derived.Deep.LoopGhost
import Derived.Deep.AppendLies
import Derived.Deep.CutBlock
import Derived.Deep.RegionHeld3
namespace Go.Proofs.Ytcjklacfoldaoaa
open Go.RowKit
attribute [local go_sem ↓] Go.wp_at_zero Go.wp_at_succ

theorem infoU64 : (Try.prog.info? 37).map (fun i => (i.zero, i.size, i.bytes)) = some (some (.int .u64 0), 1, 8) := by kernel_rfl
theorem infoBool : (Try.prog.info? 4).map (fun i => (i.zero, i.size, i.bytes)) = some (some (.bool false), 1, 1) := by kernel_rfl
theorem all_get {l : List Act} (h : l.all actOk = true) {i : Nat} {a : Act} (hi : l[i]? = some a) : actOk a = true := by
  rw [List.all_eq_true] at h
  exact h a (List.mem_of_getElem? hi)

set_option maxRecDepth 100000 in
set_option maxHeartbeats 4000000 in
theorem twoStep_any (r : Rules) (start : Int) (va : Value) (l : List Act) (w : World) (mild : r.Mild) (rok : r.Ok) (t0 : -1000000000000000 ≤ start) (t1 : start ≤ 1000000000000000)
    (ha : ActsAt w va l) (hl : l.length ≤ 2000) (hok : l.all actOk = true) :
    Calls Try.prog 21 #[rulesV r, .int .i64 start, va] w fun e w' =>
      ∃ vo vc, e = .returned (.tuple #[vo, vc, .bool (twoOk r start l)]) ∧ Below w.heap.size w w' ∧ ∀ q, SPlay.run r (SPlay.start r start) l = some q →
        w'.ownsRow w.heap.size 39 9 vo q.out.length (ansFlat q.out) ∧ w'.ownsRow w.heap.size 34 2 vc q.s.chs.length (chFlat q.s.chs) := by
  obtain ⟨pa, cap, rfl, hacts⟩ := ha
  have HA := Lib.hid hacts
  have HOK := Lib.hid hok
  have MI := Lib.hid mild
  have RO := Lib.hid rok
  clear hacts hok mild rok
  unfold rulesV
  go_enter Try.func21, Try.ntmps21
  go_wp2_with fail
  have hz : (w.alloc (Obj.cells (rulesArr r) 24)).heap.size = w.heap.size + 1 := by simp
  refine (newSB_any r start (w.alloc (Obj.cells (rulesArr r) 24)) MI.out (by omega) (by omega)).mono ?_
  rintro e w2 ⟨rfl, hb, hB⟩
  rw [hz] at hb hB ⊢
  have S2 := Lib.hid (show SSt w (w.heap.size + 1 + 1) r w2 (SPlay.start r start) (w.heap.size + 1) (.slice none 0 0) (.slice none 0 0) (.slice none 0 0) from
    ⟨hb, World.ownsRow_nil _ _ _ _, World.ownsRow_nil _ _ _ _, World.ownsRow_nil _ _ _ _, by simp [Value.ownBlock], by simp [Value.ownBlock], by simp [Value.ownBlock], by omega, by omega, ((Below.refl _ _).alloc (Nat.le_refl _) _).trans (hB.mono (by omega))⟩)
  obtain ⟨bb, hbb⟩ : ∃ k, k = w.heap.size + 1 + 1 := ⟨_, rfl⟩
  obtain ⟨c0, hc0⟩ : ∃ k, k = w.heap.size + 1 := ⟨_, rfl⟩
  rw [← hbb] at S2
  rw [← hc0] at S2
  rw [← hbb]
  clear hbb hc0 hb hB hz
  go_wp2_with fail
  go_loopg [10, 11, 12, 13, 23] l.length (fun g s10 s11 s12 s13 s23 wx => ∃ (i : Nat) (q : SPlay) (cr : Nat), g = l.length - i ∧ i ≤ l.length ∧ s23 = .int .i64 (i : Int) ∧ s10 = .int .i64 q.now ∧ Hid (SSt w bb r wx q cr s11 s12 s13 ∧ q.s.Three ∧ SPlay.run r q (l.drop i) = SPlay.run r (SPlay.start r start) l ∧ q.s.chs.length ≤ 2 * i ∧ q.went.length ≤ i ∧ q.done.length = q.went.length ∧ q.out.length = i ∧ -1000000000000000 ≤ q.now ∧ q.now ≤ 1000000000000000 + 1000000000000000 * i))
  case atStart =>
    exact ⟨0, SPlay.start r start, c0, rfl, Nat.zero_le _, rfl, rfl, Lib.hid ⟨S2.out, .inl rfl, rfl, by simp [SPlay.start, SB.new, SB.clear, SB.zero], by simp [SPlay.start], rfl, rfl, by simpa [SPlay.start] using t0, by simpa [SPlay.start] using t1⟩⟩
  case round =>
    obtain ⟨i, q, cr, rfl, hi, rfl, rfl, hh⟩ := hrel
    by_cases hin : i < l.length
    · have hiz : (i : Int) < (l.length : Int) := by omega
      obtain ⟨a, hla⟩ : ∃ a, l[i]? = some a := ⟨_, List.getElem?_eq_getElem hin⟩
      obtain ⟨ab, ao, rfl, hblk, hcell⟩ := HA.out i a hla
      have hbc := fun j u hj => (hh.out.1.bel.cell (p := ⟨ab, ao + i * 4 + j, none⟩) hblk).trans (hcell j u hj)
      have k0 : wr.cell? ⟨ab, ao + i * 4, none⟩ = some (.int .i64 a.kind) := hbc 0 _ rfl
      have k1 := hbc 1 _ rfl
      have k2 := hbc 2 _ rfl
      have k3 := hbc 3 _ rfl
      have hao := all_get HOK.out hla
      have AO := Lib.hid hao
      have LA := Lib.hid hla
      obtain ⟨_, w0, w1, _, _⟩ := actOk_parts hao
      obtain ⟨hS, h3, hR, b1, b2, b3, b4, n0, n1⟩ := hh.out
      have HD := Lib.hid hR
      have H3 := Lib.hid h3
      have B3 := Lib.hid b3
      have B4 := Lib.hid b4
      have S1 := Lib.hid (hS.alloc (Obj.cells #[Value.int IntKind.i64 a.kind, Value.int IntKind.i64 a.wait, Value.int IntKind.i64 a.call, Value.int IntKind.i64 a.err] 45))
      have A1 := Lib.hid (heap_alloc_new wr (Obj.cells #[Value.int IntKind.i64 a.kind, Value.int IntKind.i64 a.wait, Value.int IntKind.i64 a.call, Value.int IntKind.i64 a.err] 45))
      have ne1 := Lib.hid (show wr.heap.size ≠ bb ∧ wr.heap.size ≠ cr from ⟨Nat.ne_of_gt hS.sb.blt, Nat.ne_of_gt hS.sb.crlt⟩)
      have W1 := Lib.hid hS.bel.size
      have n2 : q.now + a.wait ≤ 3000000000000000000 := by omega
      have n3 : -3000000000000000000 ≤ q.now + a.wait := by omega
      clear hbc hcell hla hao hR h3 b3 b4 hh hS hblk
      go_upto_region 9 with fail
      obtain ⟨ba, hba⟩ : ∃ k, k = wr.heap.size := ⟨_, rfl⟩
      rw [← hba] at A1 ne1 W1
      rw [← hba]
      clear hba k0 k1 k2 k3
      generalize (wr.alloc (Obj.cells #[Value.int IntKind.i64 a.kind, Value.int IntKind.i64 a.wait, Value.int IntKind.i64 a.call, Value.int IntKind.i64 a.err] 45)) = X1 at *
      have a0 := blk_cell A1.out
      have zlt := size_of_heap A1.out
      go_upto_region 11 with fail
      have S2 := Lib.hid (S1.out.alloc (Obj.cells #[Value.int IntKind.i64 0, Value.int IntKind.i64 (-1), Value.int IntKind.u32 0, Value.int IntKind.u32 0, Value.int IntKind.u32 0, Value.int IntKind.u32 0, Value.int IntKind.u32 0, Value.int IntKind.u32 0, Value.int IntKind.u64 0] 39))
      have A2 := Lib.hid (heap_alloc_lt (o := (Obj.cells #[Value.int IntKind.i64 0, Value.int IntKind.i64 (-1), Value.int IntKind.u32 0, Value.int IntKind.u32 0, Value.int IntKind.u32 0, Value.int IntKind.u32 0, Value.int IntKind.u32 0, Value.int IntKind.u32 0, Value.int IntKind.u64 0] 39)) A1.out)
      have X2 := Lib.hid (heap_alloc_new X1 (Obj.cells #[Value.int IntKind.i64 0, Value.int IntKind.i64 (-1), Value.int IntKind.u32 0, Value.int IntKind.u32 0, Value.int IntKind.u32 0, Value.int IntKind.u32 0, Value.int IntKind.u32 0, Value.int IntKind.u32 0, Value.int IntKind.u64 0] 39))
      have ne2 := Lib.hid (show X1.heap.size ≠ bb ∧ X1.heap.size ≠ cr from ⟨Nat.ne_of_gt S1.out.sb.blt, Nat.ne_of_gt S1.out.sb.crlt⟩)
      have U2 := Lib.hid (show u13.ownBlock ≠ some X1.heap.size from fun h => absurd (S1.out.ot.lt _ h).2 (Nat.lt_irrefl _))
      have W2 := Lib.hid S1.out.bel.size
      obtain ⟨xb, hxb⟩ : ∃ k, k = X1.heap.size := ⟨_, rfl⟩
      rw [← hxb] at X2 ne2 U2 W2
      rw [← hxb]
      clear hxb a0 zlt S1 A1
      generalize (X1.alloc (Obj.cells #[Value.int IntKind.i64 0, Value.int IntKind.i64 (-1), Value.int IntKind.u32 0, Value.int IntKind.u32 0, Value.int IntKind.u32 0, Value.int IntKind.u32 0, Value.int IntKind.u32 0, Value.int IntKind.u32 0, Value.int IntKind.u64 0] 39)) = X3 at *
      have a0 := blk_cell A2.out
      have xc := blk_cell X2.out
      have xf := blk_free X2.out
      have zlt := size_of_heap A2.out
      have xlt := size_of_heap X2.out
      have nab : ba ≠ xb := by rintro rfl; have := A2.out.symm.trans X2.out; simp at this
      have hch : q.s.chs.length ≤ 100000 := by omega
      clear X1
      go_upto_block 2 with fail
      have hrd := SPlay.run_drop r q LA.out
      rw [HD.out] at hrd
      have HR := Lib.hid hrd
      clear hrd HD
      by_cases hbad : q.bad a = true
      · have hnone : SPlay.run r (SPlay.start r start) l = none := by rw [HR.out, if_pos hbad]
        have e2 : twoOk r start l = false := by unfold twoOk; rw [hnone]
        have NN := Lib.hid hnone
        have BB := Lib.hid S2.out.bel
        have E2 := Lib.hid e2
        unfold SPlay.bad at hbad
        rw [Bool.and_eq_true, beq_iff_eq, Bool.or_eq_true, Bool.or_eq_true, decide_eq_true_eq, decide_eq_true_eq] at hbad
        obtain ⟨hk, hbad⟩ := hbad
        have k0 : (a.kind == 0) = false := by simp [hk]
        have k1 : (a.kind == 1) = false := by simp [hk]
        obtain ⟨gp, gc, rfl⟩ := row_len S2.out.gt
        clear hnone e2 hk
        by_cases c0 : a.call < 0
        · clear hbad
          go_wp2_with fail
          go_ret3
          rw [E2.out]
          exact ⟨_, _, rfl, BB.out, fun x hx => by rw [NN.out] at hx; cases hx⟩
        · by_cases c1 : (q.went.length : Int) ≤ a.call
          · clear hbad
            go_wp2_with fail
            go_ret3
            rw [E2.out]
            exact ⟨_, _, rfl, BB.out, fun x hx => by rw [NN.out] at hx; cases hx⟩
          · obtain ⟨k, hk⟩ : ∃ k : Nat, a.call = (k : Int) := ⟨a.call.toNat, by omega⟩
            have hkl : k < q.done.length := by rw [B3.out]; omega
            have hd : q.done[k]? = some true := by
              have h3 : q.done.getD a.call.toNat false = true := by
                rcases hbad with h | h | h
                · omega
                · omega
                · exact h
              rw [hk] at h3
              rw [List.getElem?_eq_getElem hkl]
              simp [hkl] at h3
              rw [h3]
            obtain ⟨gd, cpd, csd, rfl, _, _, _, hcd⟩ := row_slice S2.out.dn (by omega)
            have d0 := hcd k (.bool true) (by rw [List.getElem?_map, hd]; rfl)
            have a2 : X3.cell? ⟨ba, 2, none⟩ = some (.int .i64 (k : Int)) := by rw [← hk]; exact a0 2
            have a00 : X3.cell? ⟨ba, 0, none⟩ = some (.int .i64 a.kind) := a0 0
            have c3 : ¬ ((k : Int) < 0) := by omega
            have c4 : ¬ ((q.went.length : Int) ≤ (k : Int)) := by omega
            have c5 : (k : Int) < (q.done.length : Int) := by omega
            clear hbad hcd a0 c0 c1 hk
            go_wp2_with fail
            go_ret3
            rw [E2.out]
            exact ⟨_, _, rfl, BB.out, fun x hx => by rw [NN.out] at hx; cases hx⟩
      · have hb : q.bad a = false := by simpa using hbad
        clear hbad
        go_cut [11, 12] (fun s11 s12 wx => ∃ cr', Hid (SSt w bb r wx (q.sw r a) cr' s11 s12 u13 ∧ wx.heap[xb]? = some (Obj.cells #[Value.int IntKind.i64 (q.code r a), Value.int IntKind.i64 (q.state r a), Value.int IntKind.u32 0, Value.int IntKind.u32 0, Value.int IntKind.u32 0, Value.int IntKind.u32 0, Value.int IntKind.u32 0, Value.int IntKind.u32 0, Value.int IntKind.u64 0] 39 (0, 0)) ∧ xb ≠ cr'))
        case first =>
          have HB := Lib.hid hb
          clear hb HR
          have ht : (q.s.look r (q.now + a.wait)).state = 0 ∨ (q.s.look r (q.now + a.wait)).state = 1 ∨ (q.s.look r (q.now + a.wait)).state = 2 := H3.out.look r (q.now + a.wait)
          have HT := Lib.hid ht
          clear ht
          rcases (actOk_parts AO.out).1 with hk | hk | hk
          · have HK := Lib.hid hk
            have e0 : (a.kind == 0) = true := by simp [hk]
            clear hk
            go_wp2_with fail
            refine (sbLook_any bb cr r q.s (q.now + a.wait) _ S2.out.sb MI.out (by omega) n3 n2).mono ?_
            rintro e w4 ⟨rfl, cr4, s4, k4, m4⟩
            have X4 := Lib.hid (m4.heap X2.out (by simpa using ne2.out))
            have nc4 := Lib.hid (show xb ≠ cr4 by have := ne2.out.2; rcases k4 with k | k <;> omega)
            obtain ⟨cv, hv, _, _⟩ := s4.at_
            have hc := hv.cells.1
            have hf := hv.cells.2
            have S4 := Lib.hid (S2.out.go s4 k4 m4)
            have x4 := blk_cell X4.out
            have f4 := blk_free X4.out
            have bz := size_of_heap hv
            have xz := size_of_heap X4.out
            clear s4 k4 m4 xc xf a0 hv zlt xlt
            go_wp2_with fail
            go_meet
            have e5 : q.sw r a = { q with now := q.now + a.wait, s := q.s.look r (q.now + a.wait) } := by unfold SPlay.sw; rw [if_pos HK.out]
            refine ⟨cr4, Lib.hid ⟨?_, ?_, nc4.out⟩⟩
            · rw [e5]
              have x := S4.out.set (g := xb) X4.out (by decide) (by decide) ne2.out.1 nc4.out U2.out W2.out ((Mod.refl [xb] w4).setCell ⟨xb, 1, none⟩ (.int .i64 (q.s.look r (q.now + a.wait)).state) (by simp))
              exact x.cast rfl rfl rfl rfl
            · refine (heap_set_same X4.out).trans ?_
              unfold SPlay.code SPlay.state
              rw [if_neg (by have := HK.out; omega), if_pos HK.out]
              simp
          · have HK := Lib.hid hk
            have e0 : (a.kind == 0) = false := by simp [hk]
            have e1 : (a.kind == 1) = true := by simp [hk]
            clear hk
            go_wp2_with fail
            refine (sbAllow_any bb cr r q.s (q.now + a.wait) _ S2.out.sb MI.out (by omega) n3 n2 (by have := HT.out; omega) (by have := HT.out; omega)).mono ?_
            rintro e w4 ⟨rfl, cr4, s4, k4, m4⟩
            have X4 := Lib.hid (m4.heap X2.out (by simpa using ne2.out))
            have nc4 := Lib.hid (show xb ≠ cr4 by have := ne2.out.2; rcases k4 with k | k <;> omega)
            have S4 := Lib.hid (S2.out.go s4 k4 m4)
            have x4 := blk_cell X4.out
            have f4 := blk_free X4.out
            have xz := size_of_heap X4.out
            clear s4 k4 m4 xc xf a0 zlt xlt
            go_upto_region 21 with fail
            have m5 : Mod [xb] w4 (w4.setCell ⟨xb, 0, none⟩ (Value.int IntKind.i64 ((q.s.look r (q.now + a.wait)).allowCode r))) := (Mod.refl [xb] w4).setCell _ _ (by simp)
            have S5 := Lib.hid (S4.out.set (g := xb) X4.out (by decide) (by decide) ne2.out.1 nc4.out U2.out W2.out m5)
            have X5 := Lib.hid (show (w4.setCell ⟨xb, 0, none⟩ (Value.int IntKind.i64 ((q.s.look r (q.now + a.wait)).allowCode r))).heap[xb]? = some (Obj.cells #[Value.int IntKind.i64 ((q.s.look r (q.now + a.wait)).allowCode r), Value.int IntKind.i64 (-1), Value.int IntKind.u32 0, Value.int IntKind.u32 0, Value.int IntKind.u32 0, Value.int IntKind.u32 0, Value.int IntKind.u32 0, Value.int IntKind.u32 0, Value.int IntKind.u64 0] 39 (0, 0)) from (heap_set_same X4.out).trans (by simp))
            clear m5 S4 X4 x4 f4 xz
            generalize (w4.setCell ⟨xb, 0, none⟩ (Value.int IntKind.i64 ((q.s.look r (q.now + a.wait)).allowCode r))) = W5 at *
            have x5 := blk_cell X5.out
            have xz := size_of_heap X5.out
            have f2 : ((q.s.look r (q.now + a.wait)).allow1 r).cleared = (q.s.look r (q.now + a.wait)).cleared := by unfold SB.allow1; split <;> rfl
            by_cases hc : (q.s.look r (q.now + a.wait)).allowCode r = 0
            · have HC := Lib.hid hc
              have e2 : ((q.s.look r (q.now + a.wait)).allowCode r == 0) = true := by simp [hc]
              clear hc
              obtain ⟨i0, hi0, hz0, hz1, hz2⟩ := info_parts infoU64
              obtain ⟨j0, hj0, hy0, hy1, hy2⟩ := info_parts infoBool
              obtain ⟨cv, hv, _, _⟩ := S5.out.sb.at_
              have bc := hv.cells.1
              have bz := size_of_heap hv
              have hbase := S5.out.bel.size
              clear hv
              go_wp2_with (first
                | (refine wpList_append_lies _ (by rfl) _ _ _ (by rfl) w.heap.size 37 i0 (.int .u64 0) 1 8 Try.underlying103 hi0 hz0 hz1 hz2 rfl (by omega) u11 q.went.length (q.went.map (fun g => Value.int .u64 g)) (by rfl) (S5.out.gt.alloc _) ⟨W5.heap.size, 0, none⟩ 1 1 [Value.int .u64 (q.s.look r (q.now + a.wait)).cleared] (by rfl) rfl (World.news_of_block (heap_alloc_new W5 _)) (by intro u hu; simp at hu; subst hu; rfl) (by omega) (by unfold maxLen; omega) (by omega) (by simp; omega) (W5.heap.size + 1) (by simp) ?_; intro g cp w6 hown hgrow hat hlt)
                | (have P6 := Lib.hid ((S5.out.alloc (Obj.cells #[Value.int .u64 (q.s.look r (q.now + a.wait)).cleared] 37)).pushWent hown hgrow (by simpa using hat)); have X6 := Lib.hid ((hgrow.block xb (by simp; omega) (own_ne S5.out.gt X5.out (by decide))).trans (heap_alloc_lt (o := Obj.cells #[Value.int .u64 (q.s.look r (q.now + a.wait)).cleared] 37) X5.out)); have xz6 := size_of_heap X6.out; have hbase6 := P6.out.bel.size; refine wpList_append_lies _ (by rfl) _ _ _ (by rfl) w.heap.size 4 j0 (.bool false) 1 1 Try.underlying104 hj0 hy0 hy1 hy2 rfl (by omega) u12 q.done.length (q.done.map (fun g => Value.bool g)) (by rfl) (P6.out.dn.alloc _) ⟨w6.heap.size, 0, none⟩ 1 1 [Value.bool false] (by rfl) rfl (World.news_of_block (heap_alloc_new w6 _)) (by intro u hu; simp at hu; subst hu; rfl) (by omega) (by unfold maxLen; have := B3.out; omega) (by have := B3.out; omega) (by have := B3.out; simp; omega) (w6.heap.size + 1) (by simp) ?_; intro g2 cp2 w7 hown2 hgrow2 hat2 hlt2))
              go_meet
              have e5 : q.sw r a = { q with now := q.now + a.wait, s := (q.s.look r (q.now + a.wait)).allow1 r, went := q.went ++ [(q.s.look r (q.now + a.wait)).cleared], done := q.done ++ [false] } := by
                unfold SPlay.sw; rw [if_neg (by have := HK.out; omega), if_pos HK.out, if_pos HC.out, if_pos HC.out]
              refine ⟨cr4, Lib.hid ⟨?_, ?_, nc4.out⟩⟩
              · rw [e5]
                have P7 := (P6.out.alloc (Obj.cells #[Value.bool false] 4)).pushDone hown2 hgrow2 (by simpa using hat2)
                exact P7.cast rfl rfl rfl rfl
              · refine ((hgrow2.block xb (by simp; omega) (own_ne P6.out.dn X6.out (by decide))).trans (heap_alloc_lt X6.out)).trans ?_
                unfold SPlay.code SPlay.state
                rw [if_pos HK.out, if_neg (by have := HK.out; omega)]
            · have HC := Lib.hid hc
              have e2 : ((q.s.look r (q.now + a.wait)).allowCode r == 0) = false := by simp [hc]
              clear hc
              go_wp2_with fail
              go_meet
              have e5 : q.sw r a = { q with now := q.now + a.wait, s := (q.s.look r (q.now + a.wait)).allow1 r } := by
                unfold SPlay.sw; rw [if_neg (by have := HK.out; omega), if_pos HK.out, if_neg HC.out, if_neg HC.out]
              refine ⟨cr4, Lib.hid ⟨?_, ?_, nc4.out⟩⟩
              · rw [e5]; exact S5.out.cast rfl rfl rfl rfl
              · refine X5.out.trans ?_
                unfold SPlay.code SPlay.state
                rw [if_pos HK.out, if_neg (by have := HK.out; omega)]
          · have HK := Lib.hid hk
            have e0 : (a.kind == 0) = false := by simp [hk]
            have e1 : (a.kind == 1) = false := by simp [hk]
            have hb2 := HB.out
            unfold SPlay.bad at hb2
            simp [hk] at hb2
            obtain ⟨c0, c1, c2⟩ := hb2
            clear hk
            obtain ⟨k, hk⟩ : ∃ k : Nat, a.call = (k : Int) := ⟨a.call.toNat, by omega⟩
            have hkl : k < q.went.length := by omega
            have hkd : k < q.done.length := by rw [B3.out]; omega
            have hd : q.done[k]? = some false := by
              rw [hk] at c2
              rw [List.getElem?_eq_getElem hkd]
              simp [hkd] at c2
              rw [c2]
            have hg : q.went[k]? = some q.went[k] := List.getElem?_eq_getElem hkl
            obtain ⟨gd, cpd, csd, rfl, gdl, gdb, hgd, hcd⟩ := row_slice S2.out.dn (by omega)
            obtain ⟨gg, cpg, csg, rfl, ggl, ggb, hgg, hcg⟩ := row_slice S2.out.gt (by omega)
            have d0 := hcd k (.bool false) (by rw [List.getElem?_map, hd]; rfl)
            have g0 := hcg k (.int .u64 q.went[k]) (by rw [List.getElem?_map, hg]; rfl)
            have dfz := blk_free hgd
            have a2 : X3.cell? ⟨ba, 2, none⟩ = some (.int .i64 (k : Int)) := by rw [← hk]; exact a0 2
            have a3 : X3.cell? ⟨ba, 3, none⟩ = some (.int .i64 a.err) := a0 3
            have a00 : X3.cell? ⟨ba, 0, none⟩ = some (.int .i64 a.kind) := a0 0
            have c3 : ¬ ((k : Int) < 0) := by omega
            have c4 : ¬ ((q.went.length : Int) ≤ (k : Int)) := by omega
            have c5 : (k : Int) < (q.done.length : Int) := by omega
            have c6 : (k : Int) < (q.went.length : Int) := by omega
            have n_ba : ba ≠ gd := by rintro rfl; have := A2.out.symm.trans hgd; simp at this
            have n_xb : xb ≠ gd := by rintro rfl; have := X2.out.symm.trans hgd; simp at this
            have n_gg : gg ≠ gd := by rintro rfl; have := hgg.symm.trans hgd; simp at this
            have hgn := S2.out.gs gg rfl
            have HKK := Lib.hid hk
            have HGG := Lib.hid hgg
            clear hcd hcg a0 c0 c1 c2 hk hd hg hgd hgg xc xf
            go_upto_region 15 with fail
            have S4 := Lib.hid (S2.out.mark (k := k) rfl)
            have A4 := Lib.hid (heap_set_other (a := ⟨gd, k, none⟩) (v := Value.bool true) A2.out n_ba)
            have X4 := Lib.hid (heap_set_other (a := ⟨gd, k, none⟩) (v := Value.bool true) X2.out n_xb)
            have G4 := Lib.hid (heap_set_other (a := ⟨gd, k, none⟩) (v := Value.bool true) HGG.out n_gg)
            have g4 : (X3.setCell ⟨gd, k, none⟩ (.bool true)).cell? ⟨gg, k, none⟩ = some (.int .u64 q.went[k]) := by
              have x := blk_cell G4.out k
              have y := blk_cell HGG.out k
              rw [x, ← y]; exact g0
            have sz : (X3.setCell ⟨gd, k, none⟩ (.bool true)).heap.size = X3.heap.size := by simp
            rw [← sz] at zlt xlt ggl
            clear a2 a3 a00 d0 dfz g0 gdl sz
            generalize (X3.setCell ⟨gd, k, none⟩ (.bool true)) = W4 at *
            have a2 : W4.cell? ⟨ba, 2, none⟩ = some (.int .i64 (k : Int)) := by rw [← HKK.out]; exact blk_cell A4.out 2
            have a3 : W4.cell? ⟨ba, 3, none⟩ = some (.int .i64 a.err) := blk_cell A4.out 3
            have hdn := sbDone_any bb cr r q.s (q.now + a.wait) q.went[k] a.err W4.drew S4.out.drew.sb MI.out RO.out H3.out (by omega) n3 n2 (by omega) (by omega)
            have HDN := Lib.hid hdn
            clear hdn
            go_region_held3 (fun w' => w'.cell? ⟨ba, 2, none⟩ = some (.int .i64 (k : Int)) ∧ w'.cell? ⟨ba, 3, none⟩ = some (.int .i64 a.err) ∧ w'.cell? ⟨gg, k, none⟩ = some (.int .u64 q.went[k])) (first | (go_keep; done) | ((try dsimp only); exact ⟨p1, p2, p3⟩))
              ((go_at_call 45; refine HDN.out.mono ?_; rintro e w5 ⟨rfl, cr5, s5, k5, m5⟩; have p1 := blk_cell (m5.heap (heap_drew A4.out) (by simpa using ne1.out)) 2; have p2 := blk_cell (m5.heap (heap_drew A4.out) (by simpa using ne1.out)) 3; have p3 := (blk_cell (m5.heap (heap_drew G4.out) (by simpa using hgn)) k).trans ((blk_cell G4.out k).symm.trans g4); rw [HKK.out] at p1; simp at p1 p2))
            have X5 := Lib.hid (m5.heap (heap_drew X4.out) (by simpa using ne2.out))
            have nc5 := Lib.hid (show xb ≠ cr5 by have := ne2.out.2; have e : W4.drew.heap.size = W4.heap.size := rfl; rcases k5 with k | k <;> omega)
            have S5 := Lib.hid (S4.out.drew.go s5 k5 m5)
            clear s5 k5 m5 p1 p2 p3 a2 a3 g4
            go_wp2_with fail
            go_meet
            have e5 : q.sw r a = { q with now := q.now + a.wait, s := q.s.done r (q.now + a.wait) q.went[k] a.err, done := q.done.set k true } := by
              have e6 : q.went.getD a.call.toNat 0 = q.went[k] := by rw [HKK.out]; simp [List.getD, hkl]
              have e7 : a.call.toNat = k := by rw [HKK.out]; rfl
              unfold SPlay.sw; rw [if_neg (by have := HK.out; omega), if_neg (by have := HK.out; omega), e6, e7]
            refine ⟨cr5, Lib.hid ⟨?_, ?_, nc5.out⟩⟩
            · rw [e5]; exact S5.out.cast rfl rfl rfl rfl
            · refine X5.out.trans ?_
              unfold SPlay.code SPlay.state
              rw [if_neg (by have := HK.out; omega), if_neg (by have := HK.out; omega)]
        case rest =>
          obtain ⟨cr5, hh5⟩ := hcut
          obtain ⟨s5, h5x, h5n⟩ := hh5.out
          have S5 := Lib.hid s5
          have X5 := Lib.hid h5x
          have N5 := Lib.hid h5n
          obtain ⟨cv, hv, _, _⟩ := s5.sb.at_
          have hc := hv.cells.1
          have x5 := blk_cell h5x
          have f5 := blk_free h5x
          have zx := size_of_heap h5x
          have zb := size_of_heap hv
          have nbx : bb ≠ xb := ne2.out.1.symm
          clear s5 h5x h5n hh5 hv xc xf a0 S2 A2 X2 xlt zlt
          go_upto_region 23 with fail
          go_region
          have m8 : Mod [xb] wc (((((((wc.setCell ⟨xb, 2, none⟩ (Value.int IntKind.u32 (q.sw r a).s.cnt.r)).setCell ⟨xb, 3, none⟩ (Value.int IntKind.u32 (q.sw r a).s.cnt.s)).setCell ⟨xb, 4, none⟩ (Value.int IntKind.u32 (q.sw r a).s.cnt.f)).setCell ⟨xb, 5, none⟩ (Value.int IntKind.u32 (q.sw r a).s.cnt.x)).setCell ⟨xb, 6, none⟩ (Value.int IntKind.u32 (q.sw r a).s.cnt.g)).setCell ⟨xb, 7, none⟩ (Value.int IntKind.u32 (q.sw r a).s.cnt.h)).setCell ⟨xb, 8, none⟩ (Value.int IntKind.u64 (q.sw r a).s.cleared)) := (((((((Mod.refl [xb] wc).setCell _ _ (by simp)).setCell _ _ (by simp)).setCell _ _ (by simp)).setCell _ _ (by simp)).setCell _ _ (by simp)).setCell _ _ (by simp)).setCell _ _ (by simp)
          have S9 := Lib.hid ((S5.out.set X5.out (by decide) (by decide) ne2.out.1 N5.out U2.out W2.out m8).drew)
          have HX9 : (((((((wc.setCell ⟨xb, 2, none⟩ (Value.int IntKind.u32 (q.sw r a).s.cnt.r)).setCell ⟨xb, 3, none⟩ (Value.int IntKind.u32 (q.sw r a).s.cnt.s)).setCell ⟨xb, 4, none⟩ (Value.int IntKind.u32 (q.sw r a).s.cnt.f)).setCell ⟨xb, 5, none⟩ (Value.int IntKind.u32 (q.sw r a).s.cnt.x)).setCell ⟨xb, 6, none⟩ (Value.int IntKind.u32 (q.sw r a).s.cnt.g)).setCell ⟨xb, 7, none⟩ (Value.int IntKind.u32 (q.sw r a).s.cnt.h)).setCell ⟨xb, 8, none⟩ (Value.int IntKind.u64 (q.sw r a).s.cleared)).drew.heap[xb]? = some (Obj.cells #[Value.int IntKind.i64 (q.code r a), Value.int IntKind.i64 (q.state r a), Value.int IntKind.u32 (q.sw r a).s.cnt.r, Value.int IntKind.u32 (q.sw r a).s.cnt.s, Value.int IntKind.u32 (q.sw r a).s.cnt.f, Value.int IntKind.u32 (q.sw r a).s.cnt.x, Value.int IntKind.u32 (q.sw r a).s.cnt.g, Value.int IntKind.u32 (q.sw r a).s.cnt.h, Value.int IntKind.u64 (q.sw r a).s.cleared] 39 (0, 0)) :=
            heap_drew ((heap_set_same (heap_set_same (heap_set_same (heap_set_same (heap_set_same (heap_set_same (heap_set_same X5.out))))))).trans (by simp))
          have x9 := blk_cell HX9
          have zx9 := size_of_heap HX9
          clear m8 HX9 S5 X5 x5 f5 zx zb hc
          generalize (((((((wc.setCell ⟨xb, 2, none⟩ (Value.int IntKind.u32 (q.sw r a).s.cnt.r)).setCell ⟨xb, 3, none⟩ (Value.int IntKind.u32 (q.sw r a).s.cnt.s)).setCell ⟨xb, 4, none⟩ (Value.int IntKind.u32 (q.sw r a).s.cnt.f)).setCell ⟨xb, 5, none⟩ (Value.int IntKind.u32 (q.sw r a).s.cnt.x)).setCell ⟨xb, 6, none⟩ (Value.int IntKind.u32 (q.sw r a).s.cnt.g)).setCell ⟨xb, 7, none⟩ (Value.int IntKind.u32 (q.sw r a).s.cnt.h)).setCell ⟨xb, 8, none⟩ (Value.int IntKind.u64 (q.sw r a).s.cleared)).drew = W9 at *
          obtain ⟨i0, hi0, hz0, hz1, hz2⟩ := info_parts infoAns
          have hol : (q.sw r a).out.length = i := by rw [SPlay.sw_out]; exact B4.out
          have hob : (q.sw r a).out.length ≤ 100000 := by omega
          have hbase := S9.out.bel.size
          go_wp2_with (refine wpList_append_lies _ (by rfl) _ _ _ (by rfl) w.heap.size 39 i0 (.agg #[.int .i64 0, .int .i64 0, .int .u32 0, .int .u32 0, .int .u32 0, .int .u32 0, .int .u32 0, .int .u32 0, .int .u64 0]) 9 48 Try.underlying29 hi0 hz0 hz1 hz2 rfl (by omega) u13 (q.sw r a).out.length (ansFlat (q.sw r a).out) (by rfl) (S9.out.ot.alloc _) ⟨W9.heap.size, 0, none⟩ 1 1 (ansRow ⟨q.code r a, q.state r a, (q.sw r a).s.cnt, (q.sw r a).s.cleared⟩) (by rfl) rfl (World.news_of_block (heap_alloc_new W9 _)) (by intro u hu; simp [ansRow] at hu; rcases hu with rfl | rfl | rfl | rfl | rfl | rfl | rfl | rfl | rfl <;> rfl) (by omega) (by unfold maxLen; omega) (by omega) (by simp; omega) (W9.heap.size + 1) (by simp) ?_; intro g cp wA hown hgrow hat hlt)
          obtain ⟨r1, r2, r3, r4, r5⟩ := SPlay.act_s r q a
          obtain ⟨q1, q2, q3⟩ := SPlay.sw_sizes r q a
          have q4 := q3 B3.out
          go_roundg (l.length - (i + 1))
          case measure => omega
          case rel =>
            have SA := (S9.out.alloc _).pushOut hown hgrow (by simpa using hat)
            rw [SPlay.act_eq, hol] at SA
            refine ⟨i + 1, q.act r a, cr5, rfl, hin, by first | rfl | simp, by rw [r2], Lib.hid ⟨SA, by rw [r1]; exact SPlay.sw_three H3.out r a, by rw [HR.out, if_neg (by simp [hb])], by rw [r1]; omega, by rw [r3]; omega, by rw [r3, r4]; exact q4, by rw [r5, B4.out], by rw [r2]; omega, by rw [r2]; omega⟩⟩
    · have hiz : ¬ ((i : Int) < (l.length : Int)) := by omega
      have hieq : i = l.length := by omega
      obtain ⟨hS, h3, hR, b1, b2, b3, b4, n0, n1⟩ := hh.out
      have hq : SPlay.run r (SPlay.start r start) l = some q := by rw [← hR, hieq, List.drop_length]; rfl
      have HQ := Lib.hid hq
      obtain ⟨cv, hv, ho, hr⟩ := hS.sb.at_
      have hc := hv.cells.1
      have zb := size_of_heap hv
      have HS := Lib.hid hS
      have HO := Lib.hid ho
      have HRW := Lib.hid hr
      clear hq hieq hS h3 hR b1 b2 b3 b4 n0 n1 hv ho hr hh HA
      go_wp2_with fail
      go_region
      go_wp2_with fail
      go_ret3
      refine ⟨u13, cv, ?_, HS.out.bel.drew, ?_⟩
      · have e : twoOk r start l = !q.s.opn := by unfold twoOk; rw [HQ.out]
        rw [e]
        rfl
      · intro q' hq'
        rw [HQ.out] at hq'
        cases hq'
        refine ⟨HS.out.ot, ?_⟩
        refine owns_base HO.out ?_
        intro g hg
        rcases HRW.out with e | e
        · rw [e] at hg; cases hg
        · rw [e] at hg; simp at hg; subst hg; exact HS.out.c0

end Go.Proofs.Ytcjklacfoldaoaa
