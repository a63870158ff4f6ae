/- Contract of PlayTwoStep. Conditions: the acts are within the bounds, the window does not roll. -/
import Derived.Test.YtcjklacfoldaoaaPlayN
import Derived.Test.YtcjklacfoldaoaaNewB
import Derived.Deep.DeepCutAuto
import Derived.Deep.LoopGhost
import Derived.Deep.AppendLies
import Derived.Deep.CutBlock
namespace Go.Proofs.Ytcjklacfoldaoaa
open Go.RowKit
attribute [local go_sem ↓] Go.wp_at_zero Go.wp_at_succ

set_option maxRecDepth 100000 in
set_option maxHeartbeats 4000000 in
theorem play_any (r : Rules) (start : Int) (va : Value) (l : List Act) (w : World) (hb : r.bucket ≤ 0) (rok : r.Ok) (h1 : r.interval ≤ 1000000000000000000) (h2 : r.timeout ≤ 1000000000000000000) (t0 : -3000000000000000000 ≤ start) (t1 : start ≤ 3000000000000000000)
    (ha : ActsAt w va l) (hl : l.length ≤ 100000) (hf : Play.Fine r (Play.start r start).c.gen (Play.start r start) l) :
    Calls Try.prog 19 #[.agg #[.string r.name, .int .u32 r.most, .int .i64 r.interval, .int .i64 r.bucket, .int .i64 r.timeout, .int .i64 r.trip, .int .u32 r.bound, .bool r.hasGood, .int .u8 r.good, .bool r.hasOut, .int .u8 r.out], .int .i64 start, va] w fun e w' =>
      ∃ vo vc, e = .returned (.tuple #[vo, vc]) ∧ w'.ownsRow w.heap.size 39 9 vo (Play.run r (Play.start r start).c.gen (Play.start r start) l).out.length (ansFlat (Play.run r (Play.start r start).c.gen (Play.start r start) l).out) ∧
        w'.ownsRow w.heap.size 34 2 vc (Play.run r (Play.start r start).c.gen (Play.start r start) l).chs.length (chFlat (Play.run r (Play.start r start).c.gen (Play.start r start) l).chs) ∧ Below w.heap.size w w' := by
  obtain ⟨pa, cap, rfl, hacts⟩ := ha
  have HA := Lib.hid hacts
  have HF := Lib.hid hf
  clear hacts hf
  go_enter Try.func19, Try.ntmps19
  go_wp2_with fail
  have hz2 : ((w.alloc (Obj.cells (rulesArr r) 24)).alloc (Obj.cells #[Value.int IntKind.i64 start, Value.slice none 0 0] 74)).heap.size = w.heap.size + 2 := by simp
  have hbd2 : ((w.alloc (Obj.cells (rulesArr r) 24)).alloc (Obj.cells #[Value.int IntKind.i64 start, Value.slice none 0 0] 74)).heap[w.heap.size + 1]? = some (Obj.cells #[Value.int IntKind.i64 start, Value.slice none 0 0] 74 (0, 0)) := heap_alloc_at (by simp)
  refine (settings_any (w.heap.size + 1) r ((w.alloc (Obj.cells (rulesArr r) 24)).alloc (Obj.cells #[Value.int IntKind.i64 start, Value.slice none 0 0] 74))).mono ?_
  rintro e w1 ⟨bp, rs, rb, rfl, hp, hrs, hrb, ebp, ers, qrb, hB⟩
  rw [hz2] at ebp ers qrb hB
  have hbd1 := (hB.block (w.heap.size + 1) (by omega)).trans hbd2
  have hB0 : Below w.heap.size w w1 := (((Below.refl _ _).alloc (Nat.le_refl _) _).alloc (by simp) _).trans (hB.mono (by omega))
  have hz1 := hB.size
  rw [hz2] at hz1
  have hbed : BedAt w1 (newL (w1.heap.size + 1) (w.heap.size + 1) bp rb rs) w.heap.size start [] := ⟨hp, _, hbd1, World.ownsRow_nil _ _ _ _, .inl rfl⟩
  have hnew := newTwo_one (w.heap.size + 1) bp rb rs w.heap.size start [] r w1 hb hbed hrb hrs (by omega) (by omega) (by omega) (by omega) (by omega) (by omega) (by omega) (by omega) rok h1 h2 t0 t1
  have HN := Lib.hid hnew
  have HB0 := Lib.hid hB0
  have zz1 : w.heap.size + 2 ≤ w1.heap.size := hz1
  have HBP := Lib.hid (show w.heap.size ≤ bp ∧ w.heap.size ≤ rs ∧ w.heap.size ≤ rb by omega)
  clear hp hrs hrb hB hbd1 hB0 hz1 hbed hnew hbd2 hz2 ebp ers qrb
  go_wp2_with fail
  refine HN.out.mono ?_
  rintro e w2 ⟨tw, rfl, hS, hT, hSep, htw, hB2⟩
  obtain ⟨L, hL⟩ : ∃ L, L = newL (w1.heap.size + 1) (w.heap.size + 1) bp rb rs := ⟨_, rfl⟩
  rw [← hL] at hS hT hSep
  have hLbd : w.heap.size + 1 = L.bd := by rw [hL]
  have hold : ∀ i ∈ [L.cb, L.rc, L.bk, L.bd, w.heap.size], w.heap.size ≤ i := by
    rw [hL]; simp; omega
  have S2 := Lib.hid (show St w L tw r w2 (Play.start r start) w.heap.size (.slice none 0 0) (.slice none 0 0) from
    ⟨hS, hT, hSep, ⟨[], by simp, World.ownsRow_nil _ _ _ _⟩, by simp [Value.ownBlock], World.ownsRow_nil _ _ _ _, by simp [Value.ownBlock], hold, HB0.out.trans (hB2.mono (by omega))⟩)
  rw [hLbd]
  clear hS hT hSep hB2 hL hold HN HBP HB0 hLbd
  go_wp2_with fail
  refine (twoGen_any L tw r _ w2 S2.out.sys.cb S2.out.two).mono ?_
  rintro e w3 ⟨rfl, rfl⟩
  go_wp2_with fail
  obtain ⟨g0, hg0⟩ : ∃ g0, g0 = (Play.start r start).c.gen := ⟨_, rfl⟩
  have G0 := Lib.hid hg0
  rw [← hg0]
  rw [← hg0] at HF
  clear hg0
  go_loopg [11, 12, 29] l.length (fun g s11 s12 s29 wx => ∃ (i : Nat) (p : Play) (cr : Nat), g = l.length - i ∧ i ≤ l.length ∧ s29 = .int .i64 (i : Int) ∧ Hid (St w L tw r wx p cr s11 s12 ∧ p.One ∧ Play.Fine r g0 p (l.drop i) ∧ Play.run r g0 p (l.drop i) = Play.run r g0 (Play.start r start) l ∧ p.chs.length ≤ 2 * i ∧ p.dones.length ≤ i ∧ p.out.length = i))
  case atStart =>
    exact ⟨0, Play.start r start, w.heap.size, rfl, Nat.zero_le _, rfl, Lib.hid ⟨S2.out, ⟨by simp [Play.start, CB.newGen, RC.clear, freshCB], by simp [Play.start, CB.newGen, RC.clear], by simp [Play.start]⟩, HF.out, rfl, by simp [Play.start], by simp [Play.start], by simp [Play.start]⟩⟩
  case round =>
    obtain ⟨i, p, cr, rfl, hi, rfl, hh⟩ := hrel
    by_cases hin : i < l.length
    · have hiz : (i : Int) < (l.length : Int) := by omega
      obtain ⟨a, hla⟩ : ∃ a, l[i]? = some a := ⟨_, List.getElem?_eq_getElem hin⟩
      obtain ⟨ab, ao, rfl, hblk, hcell⟩ := HA.out i a hla
      have hbc := fun j u hj => (hh.out.1.bel.cell (p := ⟨ab, ao + i * 4 + j, none⟩) hblk).trans (hcell j u hj)
      have k0 : wr.cell? ⟨ab, ao + i * 4, none⟩ = some (.int .i64 a.kind) := hbc 0 _ rfl
      have k1 := hbc 1 _ rfl
      have k2 := hbc 2 _ rfl
      have k3 := hbc 3 _ rfl
      clear hbc hcell
      have LA := Lib.hid hla
      clear hla
      go_upto_region 9 with fail
      obtain ⟨hS, hO, hFn, hR, b1, b2, b3⟩ := hh.out
      obtain ⟨can, hFn'⟩ := Play.fine_drop r g0 p LA.out hFn
      have HO := Lib.hid hO
      have HFN := Lib.hid hFn'
      have HR := Lib.hid hR
      have B3 := Lib.hid b3
      have CAN := Lib.hid can
      have n0 := can.now0
      have n1 := can.now1
      have n2 := can.wait0
      have S1 := Lib.hid (hS.alloc (Obj.cells #[Value.int IntKind.i64 a.kind, Value.int IntKind.i64 a.wait, Value.int IntKind.i64 a.call, Value.int IntKind.i64 a.err] 45))
      have A1 := Lib.hid (heap_alloc_new wr (Obj.cells #[Value.int IntKind.i64 a.kind, Value.int IntKind.i64 a.wait, Value.int IntKind.i64 a.call, Value.int IntKind.i64 a.err] 45))
      have P1 := Lib.hid (hS.sys.sep (Nat.le_refl _))
      have O1 := Lib.hid (hS.bel.size)
      obtain ⟨ba, hba⟩ : ∃ k, k = wr.heap.size := ⟨_, rfl⟩
      rw [← hba] at A1 P1 O1
      have zlt : ba < (wr.alloc (Obj.cells #[Value.int IntKind.i64 a.kind, Value.int IntKind.i64 a.wait, Value.int IntKind.i64 a.call, Value.int IntKind.i64 a.err] 45)).heap.size := by rw [hba]; simp
      rw [← hba]
      clear hba hO hFn hFn' hR b3 can hS hh k0 k1 k2 k3 hblk
      generalize (wr.alloc (Obj.cells #[Value.int IntKind.i64 a.kind, Value.int IntKind.i64 a.wait, Value.int IntKind.i64 a.call, Value.int IntKind.i64 a.err] 45)) = W1 at *
      obtain ⟨bv, hbv, _, _⟩ := S1.out.sys.bed.bd
      have d0 := blk_cell hbv 0
      have d1 := blk_free hbv 0
      simp at d0
      have a0 := blk_cell A1.out
      have y0 := size_of_heap hbv
      clear hbv
      go_region
      obtain ⟨cr2, s2, k2, m2⟩ := S1.out.evo (Evo.tick S1.out.sys (now' := p.now + a.wait) (by omega) n1)
      have S2 := Lib.hid (s2.drew.alloc (Obj.cells #[Value.int IntKind.i64 0, Value.int IntKind.i64 (-1), Value.int IntKind.u32 0, Value.int IntKind.u32 0, Value.int IntKind.u32 0, Value.int IntKind.u32 0, Value.int IntKind.u32 0, Value.int IntKind.u32 0, Value.int IntKind.u64 0] 39))
      have A2 := Lib.hid (heap_alloc_lt (o := (Obj.cells #[Value.int IntKind.i64 0, Value.int IntKind.i64 (-1), Value.int IntKind.u32 0, Value.int IntKind.u32 0, Value.int IntKind.u32 0, Value.int IntKind.u32 0, Value.int IntKind.u32 0, Value.int IntKind.u32 0, Value.int IntKind.u64 0] 39)) (heap_drew (m2.heap A1.out P1.out)))
      have P2 := Lib.hid (P1.out.next (size_of_heap A1.out) k2)
      have X2 := Lib.hid (heap_alloc_new (W1.setCell ⟨L.bd, 0, none⟩ (Value.int IntKind.i64 (p.now + a.wait))).drew (Obj.cells #[Value.int IntKind.i64 0, Value.int IntKind.i64 (-1), Value.int IntKind.u32 0, Value.int IntKind.u32 0, Value.int IntKind.u32 0, Value.int IntKind.u32 0, Value.int IntKind.u32 0, Value.int IntKind.u32 0, Value.int IntKind.u64 0] 39))
      have Q2 := Lib.hid (s2.drew.sys.sep (Nat.le_refl _))
      have U2 := Lib.hid (show ∀ g, u12.ownBlock = some g → g < (W1.setCell ⟨L.bd, 0, none⟩ (Value.int IntKind.i64 (p.now + a.wait))).drew.heap.size from fun g hg => (s2.drew.ot.lt g hg).2)
      have V2 := Lib.hid (show w.heap.size ≤ (W1.setCell ⟨L.bd, 0, none⟩ (Value.int IntKind.i64 (p.now + a.wait))).drew.heap.size from s2.drew.bel.size)
      clear s2 k2 m2 d0 d1 a0 y0 zlt S1 A1 P1
      generalize (W1.setCell ⟨L.bd, 0, none⟩ (Value.int IntKind.i64 (p.now + a.wait))).drew = W2 at *
      have a0 := blk_cell (A2.out)
      have zlt := size_of_heap A2.out
      go_upto_block 2 with fail
      obtain ⟨xb, hxb⟩ : ∃ k, k = W2.heap.size := ⟨_, rfl⟩
      rw [← hxb] at X2 Q2 V2
      have U3 : ∀ g, u12.ownBlock = some g → g < xb := by rw [hxb]; exact U2.out
      have U4 := Lib.hid U3
      rw [← hxb]
      clear hxb U2 U3
      generalize (W2.alloc (Obj.cells #[Value.int IntKind.i64 0, Value.int IntKind.i64 (-1), Value.int IntKind.u32 0, Value.int IntKind.u32 0, Value.int IntKind.u32 0, Value.int IntKind.u32 0, Value.int IntKind.u32 0, Value.int IntKind.u32 0, Value.int IntKind.u64 0] 39)) = W3 at *
      clear W2
      have hlen : p.chs.length ≤ 999999 := by omega
      have COne := Lib.hid (show p.c.One from ⟨HO.out.len, HO.out.age⟩)
      have xlt := size_of_heap X2.out
      have xc := blk_cell X2.out
      have xf := blk_free X2.out
      have nab : ba ≠ xb := by rintro rfl; have := A2.out.symm.trans X2.out; simp at this
      have nxo := Lib.hid (show u12.ownBlock ≠ some xb from fun h => absurd (U4.out _ h) (Nat.lt_irrefl _))
      have qe0 := eql_err_nil
      have qe1 := eql_err_data
      go_cut [11] (fun s11 wx => ∃ cr', Hid (St w L tw r wx (p.sw r a) cr' s11 u12 ∧ wx.heap[ba]? = some (Obj.cells #[Value.int IntKind.i64 a.kind, Value.int IntKind.i64 a.wait, Value.int IntKind.i64 a.call, Value.int IntKind.i64 a.err] 45 (0, 0)) ∧ Sep L cr' ba ∧ wx.heap[xb]? = some (Obj.cells #[Value.int IntKind.i64 (p.code a), Value.int IntKind.i64 (p.state a), Value.int IntKind.u32 0, Value.int IntKind.u32 0, Value.int IntKind.u32 0, Value.int IntKind.u32 0, Value.int IntKind.u32 0, Value.int IntKind.u32 0, Value.int IntKind.u64 0] 39 (0, 0)) ∧ Sep L cr' xb))
      case first =>
        rcases CAN.out.kind with hk | hk | hk
        · have HK := Lib.hid hk
          have e0 : (a.kind == 0) = true := by simp [hk]
          clear hk
          go_wp2_with fail
          refine (twoState_any L tw cr2 r p.c (p.now + a.wait) p.chs _ S2.out.sys S2.out.two (by omega) (COne.out.win _)).mono ?_
          rintro e w4 ⟨rfl, hev⟩
          obtain ⟨cr4, s4, k4, m4⟩ := S2.out.evo hev
          have S4 := Lib.hid s4
          have X4 := Lib.hid (m4.heap X2.out Q2.out)
          have A4 := Lib.hid (m4.heap A2.out P2.out)
          have P4 := Lib.hid (P2.out.next zlt k4)
          have Q4 := Lib.hid (Q2.out.next xlt k4)
          have x4 := blk_cell X4.out
          have f4 := blk_free X4.out
          clear s4 k4 m4 hev xc xf a0
          go_wp2_with fail
          go_meet
          have e5 : p.sw r a = { p with now := p.now + a.wait, c := p.c.look (p.now + a.wait), chs := p.chs ++ p.c.lookTold (p.now + a.wait) } := by unfold Play.sw; rw [if_pos HK.out]
          refine ⟨cr4, Lib.hid ⟨?_, heap_set_other A4.out nab, P4.out, ?_, Q4.out⟩⟩
          · rw [e5]; exact S4.out.set X4.out Q4.out nxo.out V2.out ((Mod.refl [xb] w4).setCell _ _ (by simp))
          · refine (heap_set_same X4.out).trans ?_
            unfold Play.code Play.state
            rw [if_neg (by have := HK.out; omega), if_pos HK.out]
            simp
        · have HK := Lib.hid hk
          have e0 : (a.kind == 0) = false := by simp [hk]
          have e1 : (a.kind == 1) = true := by simp [hk]
          clear hk
          by_cases hc : (p.c.look (p.now + a.wait)).beforeCode = 0
          · have HC := Lib.hid hc
            clear hc
            go_wp2_with fail
            refine (allow_yes L tw cr2 r p.c (p.now + a.wait) p.chs _ S2.out.sys S2.out.two (by omega) (COne.out.win _) HC.out).mono ?_
            rintro e w4 ⟨v, cr4, rfl, s4, k4, m4, d4⟩
            obtain ⟨fb, fg, fa, rfl, _, _, _, _, _, _⟩ := d4.form
            have D4 := Lib.hid d4
            have S4 := Lib.hid (S2.out.go s4 k4 m4)
            have X4 := Lib.hid (m4.heap X2.out Q2.out)
            have A4 := Lib.hid (m4.heap A2.out P2.out)
            have P4 := Lib.hid (P2.out.next zlt k4)
            have Q4 := Lib.hid (Q2.out.next xlt k4)
            have x4 := blk_cell X4.out
            have f4 := blk_free X4.out
            have hcd := code_any 0 w4 (by omega) (by omega)
            rw [show codeV 0 = .nilIface from rfl] at hcd
            clear s4 k4 m4 d4 xc xf a0
            go_upto_region 18 with (go_at_call 37; refine hcd.mono ?_; rintro e w5 ⟨rfl, rfl⟩)
            have m5 : Mod [xb] w4 (w4.setCell ⟨xb, 0, none⟩ (Value.int IntKind.i64 0)) := (Mod.refl [xb] w4).setCell _ _ (by simp)
            have S5 := Lib.hid (S4.out.set X4.out Q4.out nxo.out V2.out m5)
            have X5 := Lib.hid (show (w4.setCell ⟨xb, 0, none⟩ (Value.int IntKind.i64 0)).heap[xb]? = some (Obj.cells #[Value.int IntKind.i64 0, Value.int IntKind.i64 (-1), Value.int IntKind.u32 0, Value.int IntKind.u32 0, Value.int IntKind.u32 0, Value.int IntKind.u32 0, Value.int IntKind.u32 0, Value.int IntKind.u32 0, Value.int IntKind.u64 0] 39 (0, 0)) from (heap_set_same X4.out).trans (by simp))
            have A5 := Lib.hid (heap_set_other (a := ⟨xb, 0, none⟩) (v := Value.int IntKind.i64 0) A4.out nab)
            have D5 := Lib.hid (D4.out.mod1 X4.out (by decide) (by decide) m5)
            clear m5 S4 X4 A4 D4 x4 f4 hcd
            generalize (w4.setCell ⟨xb, 0, none⟩ (Value.int IntKind.i64 0)) = W5 at *
            obtain ⟨vals, hd, ho⟩ := S5.out.dn
            have HD := Lib.hid hd
            have HOW := Lib.hid ho
            obtain ⟨i0, hi0, hz0, hz1, hz2⟩ := info_parts infoDone
            have b4 : p.dones.length ≤ 100000 := by omega
            have hbase := S5.out.bel.size
            clear hd ho
            go_wp2_with (refine wpList_append_lies _ (by rfl) _ _ _ (by rfl) w.heap.size 89 i0 .nilFunc 1 8 Try.underlying86 hi0 hz0 hz1 hz2 rfl (by omega) u11 p.dones.length vals (by rfl) (HOW.out.alloc _) ⟨W5.heap.size, 0, none⟩ 1 1 [(Value.func (Fn.func 60) #[] #[Value.pointer (some ⟨fb, 0, none⟩), Value.pointer (some ⟨fg, 0, none⟩), Value.pointer (some ⟨fa, 0, none⟩)])] (by rfl) rfl (World.news_of_block (heap_alloc_new W5 _)) (by intro u hu; simp at hu; subst hu; rfl) (by omega) (by unfold maxLen; omega) (by omega) (by simp; omega) (W5.heap.size + 1) (by simp) ?_; intro g cp w6 hown hgrow hat hlt)
            go_meet
            have e5 : p.sw r a = { p with now := p.now + a.wait, c := (p.c.look (p.now + a.wait)).before1, chs := p.chs ++ p.c.lookTold (p.now + a.wait), dones := p.dones ++ [((p.c.look (p.now + a.wait)).gen, (p.c.look (p.now + a.wait)).rc.age)] } := by
              unfold Play.sw; rw [if_neg (by have := HK.out; omega), if_pos HK.out, if_pos HC.out]
            have P6 := S5.out.alloc (Obj.cells #[(Value.func (Fn.func 60) #[] #[Value.pointer (some ⟨fb, 0, none⟩), Value.pointer (some ⟨fg, 0, none⟩), Value.pointer (some ⟨fa, 0, none⟩)])] 89)
            refine ⟨cr4, Lib.hid ⟨?_, ?_, P4.out, ?_, Q4.out⟩⟩
            · rw [e5]; exact P6.pushDone (fun i v d hv hp => (HD.out i v d hv hp).next (.inl rfl) ((Mod.refl _ W5).alloc _)) (HOW.out.alloc _) (D5.out.next (.inl rfl) ((Mod.refl _ W5).alloc _)) hown hgrow (by simpa using hat)
            · exact (hgrow.block ba (by simp; have := size_of_heap A5.out; omega) (own_ne HOW.out A5.out (by decide))).trans (heap_alloc_lt A5.out)
            · refine ((hgrow.block xb (by simp; have := size_of_heap X5.out; omega) (own_ne HOW.out X5.out (by decide))).trans (heap_alloc_lt X5.out)).trans ?_
              unfold Play.code Play.state
              rw [if_pos HK.out, if_neg (by have := HK.out; omega), HC.out]
          · have HC := Lib.hid hc
            have hcc := beforeCode_or _ hc
            obtain ⟨s, hs⟩ := codeV_data hcc
            have HSS := Lib.hid hs
            have HCC := Lib.hid hcc
            clear hc hcc hs
            go_wp2_with fail
            refine (allow_no L tw cr2 r p.c (p.now + a.wait) p.chs _ S2.out.sys S2.out.two (by omega) (COne.out.win _) HCC.out).mono ?_
            rintro e w4 ⟨rfl, cr4, s4, k4, m4⟩
            have S4 := Lib.hid (S2.out.go s4 k4 m4)
            have X4 := Lib.hid (m4.heap X2.out Q2.out)
            have A4 := Lib.hid (m4.heap A2.out P2.out)
            have P4 := Lib.hid (P2.out.next zlt k4)
            have Q4 := Lib.hid (Q2.out.next xlt k4)
            have x4 := blk_cell X4.out
            have f4 := blk_free X4.out
            have hcd := code_any (p.c.look (p.now + a.wait)).beforeCode w4 (by have := HCC.out; omega) (by have := HCC.out; omega)
            rw [HSS.out] at hcd
            rw [HSS.out]
            clear s4 k4 m4 xc xf a0
            go_wp2_with (go_at_call 37; refine hcd.mono ?_; rintro e w5 ⟨rfl, rfl⟩)
            go_meet
            have e5 : p.sw r a = { p with now := p.now + a.wait, c := (p.c.look (p.now + a.wait)).before1, chs := p.chs ++ p.c.lookTold (p.now + a.wait) } := by
              unfold Play.sw; rw [if_neg (by have := HK.out; omega), if_pos HK.out, if_neg HC.out]
            refine ⟨cr4, Lib.hid ⟨?_, heap_set_other A4.out nab, P4.out, ?_, Q4.out⟩⟩
            · rw [e5]; exact S4.out.set X4.out Q4.out nxo.out V2.out ((Mod.refl [xb] w4).setCell _ _ (by simp))
            · refine (heap_set_same X4.out).trans ?_
              unfold Play.code Play.state
              rw [if_pos HK.out, if_neg (by have := HK.out; omega)]
              simp
        · have HK := Lib.hid hk
          have e0 : (a.kind == 0) = false := by simp [hk]
          have e1 : (a.kind == 1) = false := by simp [hk]
          have e2 : (a.kind == 2) = true := by simp [hk]
          clear hk
          obtain ⟨ca0, ca1⟩ := CAN.out.call HK.out
          obtain ⟨kc, hkc⟩ : ∃ kc : Nat, a.call = (kc : Int) := ⟨a.call.toNat, by omega⟩
          have hkl : kc < p.dones.length := by omega
          obtain ⟨vals, hd, ho⟩ := S2.out.dn
          have hvl : vals.length = p.dones.length := by have := ho.1; rw [Nat.mul_one] at this; exact this
          obtain ⟨fv, hfv⟩ : ∃ fv, vals[kc]? = some fv := ⟨_, List.getElem?_eq_getElem (by omega)⟩
          obtain ⟨dd, hdd⟩ : ∃ dd, p.dones[kc]? = some dd := ⟨_, List.getElem?_eq_getElem hkl⟩
          have hda := hd kc fv dd hfv hdd
          have hage : dd.2 = 0 := HO.out.ages dd (List.mem_of_getElem? hdd)
          have hdone := fun (W : World) (hW : Sys W L cr2 r p.c (p.now + a.wait) p.chs) (hT : TwoAt W L tw) (hD : DoneAt W L tw cr2 fv dd.1 dd.2) => done_any L tw cr2 r p.c (p.now + a.wait) dd.1 dd.2 a.err (errV a.err) fv p.chs W hW hT S2.out.tws hD (by omega) (COne.out.win _) (errV_is CAN.out.err0 CAN.out.err1) (fun _ => by rw [hage]; exact COne.out.hit _)
          obtain ⟨fb, fg, fa, rfl, _, _, _, _, _, _⟩ := hda.form
          have HDA := Lib.hid hda
          have hdone2 : ∀ (W : World), Sys W L cr2 r p.c (p.now + a.wait) p.chs → TwoAt W L tw → DoneAt W L tw cr2 (Value.func (Fn.func 60) #[] #[Value.pointer (some ⟨fb, 0, none⟩), Value.pointer (some ⟨fg, 0, none⟩), Value.pointer (some ⟨fa, 0, none⟩)]) dd.1 dd.2 →
              Calls Try.prog 60 #[errV a.err, Value.pointer (some ⟨fb, 0, none⟩), Value.pointer (some ⟨fg, 0, none⟩), Value.pointer (some ⟨fa, 0, none⟩)] W fun e w' => e = .returned (.tuple #[]) ∧ Evo L r W cr2 w' (p.c.after r dd.1 dd.2 a.err (p.now + a.wait)) (p.now + a.wait) (p.chs ++ p.c.afterTold r dd.1 dd.2 a.err (p.now + a.wait)) := by
            intro W hW hT hD
            obtain ⟨cap2, hc2, hcall⟩ := hdone W hW hT hD
            simp at hc2
            subst hc2
            simpa using hcall
          have HDN := Lib.hid hdone2
          have hcell2 : W3.cell? ⟨ba, 2, none⟩ = some (.int .i64 (kc : Int)) := by rw [← hkc]; exact a0 2
          have hcell3 := a0 3
          simp at hcell3
          obtain ⟨gd, cpd, cur, rfl, hgd⟩ : ∃ gd cpd cur, u11 = .slice (some ⟨gd, 0, none⟩) p.dones.length cpd ∧ W3.heap[gd]? = some (.cells cur 89 (0, 0)) ∧ vals = cur.toList.take (p.dones.length * 1) := by
            rcases ho.2 with ⟨_, hn⟩ | ⟨g, cap2, cur, h1, _, h3, _, _, _, h7⟩
            · exact absurd hn (Nat.ne_of_gt (Nat.lt_of_le_of_lt (Nat.zero_le _) hkl))
            · exact ⟨g, cap2, cur, h1, h3, h7.symm⟩
          have hcd : W3.cell? ⟨gd, kc, none⟩ = some (Value.func (Fn.func 60) #[] #[Value.pointer (some ⟨fb, 0, none⟩), Value.pointer (some ⟨fg, 0, none⟩), Value.pointer (some ⟨fa, 0, none⟩)]) := by
            have := ho.cells (g := gd) rfl kc _ hfv
            rw [addr_add0] at this; exact this
          have HGD := Lib.hid hgd.1
          have HCD := Lib.hid hcd
          have hkz : (kc : Int) < (p.dones.length : Int) := by omega
          have HKC := Lib.hid hkc
          have HDD := Lib.hid hdd
          clear hd ho hvl hfv hda hdone hdone2 xc xf a0 hgd hkc hdd hage ca0 ca1
          go_upto_region 20 with fail
          go_region_held3 (fun w' => w'.cell? ⟨ba, 2, none⟩ = some (.int .i64 (kc : Int)) ∧ w'.cell? ⟨ba, 3, none⟩ = some (.int .i64 a.err) ∧ w'.cell? ⟨gd, kc, none⟩ = some (Value.func (Fn.func 60) #[] #[Value.pointer (some ⟨fb, 0, none⟩), Value.pointer (some ⟨fg, 0, none⟩), Value.pointer (some ⟨fa, 0, none⟩)])) (first | (go_keep; done) | ((try dsimp only); exact ⟨p1, p2, p3⟩))
            ((first | (go_at_call 38; refine (fault_any a.err _).mono ?_; rintro e w4 ⟨rfl, rfl⟩) | (go_at_call 60; refine (HDN.out W3.drew S2.out.drew.sys S2.out.drew.two (by exact ⟨HDA.out.form⟩)).mono ?_; rintro e w4 ⟨rfl, cr4, s4, k4, m4⟩; have p1 := blk_cell (m4.heap (heap_drew A2.out) P2.out) 2; have p2 := blk_cell (m4.heap (heap_drew A2.out) P2.out) 3; have p3 := (World.cell?_of_block (a := ⟨gd, kc, none⟩) (m4.block gd (size_of_heap HGD.out) (S2.out.dns gd rfl))).trans HCD.out; rw [HKC.out] at p1; simp at p1 p2)))
          have S4 := Lib.hid (S2.out.drew.go s4 k4 m4)
          have X4 := Lib.hid (m4.heap (heap_drew X2.out) Q2.out)
          have A4 := Lib.hid (m4.heap (heap_drew A2.out) P2.out)
          have P4 := Lib.hid (P2.out.next zlt k4)
          have Q4 := Lib.hid (Q2.out.next xlt k4)
          clear s4 k4 m4 p1 p2 p3 hcd hcell2 hcell3
          go_wp2_with fail
          go_meet
          have e5 : p.sw r a = { p with now := p.now + a.wait, c := p.c.after r dd.1 dd.2 a.err (p.now + a.wait), chs := p.chs ++ p.c.afterTold r dd.1 dd.2 a.err (p.now + a.wait) } := by
            have e6 : p.dones.getD a.call.toNat (0, 0) = dd := by rw [HKC.out]; simp [List.getD, HDD.out]
            unfold Play.sw; rw [if_neg (by have := HK.out; omega), if_neg (by have := HK.out; omega), e6]
          refine ⟨cr4, Lib.hid ⟨?_, A4.out, P4.out, ?_, Q4.out⟩⟩
          · rw [e5]; exact S4.out
          · refine X4.out.trans ?_
            unfold Play.code Play.state
            rw [if_neg (by have := HK.out; omega), if_neg (by have := HK.out; omega)]
      case rest =>
        obtain ⟨cr5, hh5⟩ := hcut
        obtain ⟨s5, h5a, h5p, h5x, h5q⟩ := hh5.out
        have S5 := Lib.hid s5
        have X5 := Lib.hid h5x
        have Q5 := Lib.hid h5q
        have x5 := blk_cell h5x
        have f5 := blk_free h5x
        have zx := size_of_heap h5x
        have hO' := Lib.hid (HO.out.act r g0 a)
        clear s5 h5a h5p h5x h5q hh5 xc xf a0 S2 A2 P2 X2 Q2 xlt zlt
        go_wp2_with fail
        refine (twoCounts_any L tw r _ _ S5.out.sys.cb S5.out.two).mono ?_
        rintro e w6 ⟨rfl, hb6⟩
        have S6 := Lib.hid (S5.out.below hb6)
        obtain ⟨x6, f6, zx6, HX6⟩ := kept hb6 X5.out
        have X6 := Lib.hid HX6
        clear hb6 HX6 x5 f5 zx S5 X5
        go_wp2_with fail
        refine (counts_any _ _).mono ?_
        rintro e w7 ⟨rfl, hb7⟩
        have S7 := Lib.hid (S6.out.below hb7)
        obtain ⟨x7, f7, zx7, HX7⟩ := kept hb7 X6.out
        have X7 := Lib.hid HX7
        clear hb7 HX7 x6 f6 zx6 S6 X6
        go_wp2_with fail
        have m8 : Mod [xb] w7 ((((((w7.setCell ⟨xb, 2, none⟩ (Value.int IntKind.u32 (Play.sw r p a).c.rc.tot.r)).setCell ⟨xb, 3, none⟩ (Value.int IntKind.u32 (Play.sw r p a).c.rc.tot.s)).setCell ⟨xb, 4, none⟩ (Value.int IntKind.u32 (Play.sw r p a).c.rc.tot.f)).setCell ⟨xb, 5, none⟩ (Value.int IntKind.u32 (Play.sw r p a).c.rc.tot.x)).setCell ⟨xb, 6, none⟩ (Value.int IntKind.u32 (Play.sw r p a).c.rc.tot.g)).setCell ⟨xb, 7, none⟩ (Value.int IntKind.u32 (Play.sw r p a).c.rc.tot.h)) := ((((((Mod.refl [xb] w7).setCell _ _ (by simp)).setCell _ _ (by simp)).setCell _ _ (by simp)).setCell _ _ (by simp)).setCell _ _ (by simp)).setCell _ _ (by simp)
        have S8 := Lib.hid (S7.out.set X7.out Q5.out nxo.out V2.out m8)
        have HX8 : ((((((w7.setCell ⟨xb, 2, none⟩ (Value.int IntKind.u32 (Play.sw r p a).c.rc.tot.r)).setCell ⟨xb, 3, none⟩ (Value.int IntKind.u32 (Play.sw r p a).c.rc.tot.s)).setCell ⟨xb, 4, none⟩ (Value.int IntKind.u32 (Play.sw r p a).c.rc.tot.f)).setCell ⟨xb, 5, none⟩ (Value.int IntKind.u32 (Play.sw r p a).c.rc.tot.x)).setCell ⟨xb, 6, none⟩ (Value.int IntKind.u32 (Play.sw r p a).c.rc.tot.g)).setCell ⟨xb, 7, none⟩ (Value.int IntKind.u32 (Play.sw r p a).c.rc.tot.h)).heap[xb]? = some (Obj.cells #[Value.int IntKind.i64 (p.code a), Value.int IntKind.i64 (p.state a), Value.int IntKind.u32 (Play.sw r p a).c.rc.tot.r, Value.int IntKind.u32 (Play.sw r p a).c.rc.tot.s, Value.int IntKind.u32 (Play.sw r p a).c.rc.tot.f, Value.int IntKind.u32 (Play.sw r p a).c.rc.tot.x, Value.int IntKind.u32 (Play.sw r p a).c.rc.tot.g, Value.int IntKind.u32 (Play.sw r p a).c.rc.tot.h, Value.int IntKind.u64 0] 39 (0, 0)) := (heap_set_same (heap_set_same (heap_set_same (heap_set_same (heap_set_same (heap_set_same (X7.out))))))).trans (by simp)
        have X8 := Lib.hid HX8
        have x8 := blk_cell HX8
        have f8 := blk_free HX8
        clear m8 HX8 S7 X7 x7 f7 zx7
        generalize ((((((w7.setCell ⟨xb, 2, none⟩ (Value.int IntKind.u32 (Play.sw r p a).c.rc.tot.r)).setCell ⟨xb, 3, none⟩ (Value.int IntKind.u32 (Play.sw r p a).c.rc.tot.s)).setCell ⟨xb, 4, none⟩ (Value.int IntKind.u32 (Play.sw r p a).c.rc.tot.f)).setCell ⟨xb, 5, none⟩ (Value.int IntKind.u32 (Play.sw r p a).c.rc.tot.x)).setCell ⟨xb, 6, none⟩ (Value.int IntKind.u32 (Play.sw r p a).c.rc.tot.g)).setCell ⟨xb, 7, none⟩ (Value.int IntKind.u32 (Play.sw r p a).c.rc.tot.h)) = W8 at *
        refine (twoGen_any L tw r _ W8 S8.out.sys.cb S8.out.two).mono ?_
        rintro e w9 ⟨rfl, rfl⟩
        go_upto_region 23 with fail
        have m9 : Mod [xb] W8 (W8.setCell ⟨xb, 8, none⟩ (Value.int IntKind.u64 (IntKind.u64.wrap ((Play.sw r p a).c.gen - g0)))) := (Mod.refl [xb] W8).setCell _ _ (by simp)
        have S9 := Lib.hid (S8.out.set X8.out Q5.out nxo.out V2.out m9)
        have HX9 : (W8.setCell ⟨xb, 8, none⟩ (Value.int IntKind.u64 (IntKind.u64.wrap ((Play.sw r p a).c.gen - g0)))).heap[xb]? = some (Obj.cells #[Value.int IntKind.i64 (p.code a), Value.int IntKind.i64 (p.state a), Value.int IntKind.u32 (Play.sw r p a).c.rc.tot.r, Value.int IntKind.u32 (Play.sw r p a).c.rc.tot.s, Value.int IntKind.u32 (Play.sw r p a).c.rc.tot.f, Value.int IntKind.u32 (Play.sw r p a).c.rc.tot.x, Value.int IntKind.u32 (Play.sw r p a).c.rc.tot.g, Value.int IntKind.u32 (Play.sw r p a).c.rc.tot.h, Value.int IntKind.u64 (IntKind.u64.wrap ((Play.sw r p a).c.gen - g0))] 39 (0, 0)) := (heap_set_same X8.out).trans (by simp)
        have x9 := blk_cell HX9
        have zx9 := size_of_heap HX9
        clear m9 HX9 S8 X8 x8 f8
        generalize (W8.setCell ⟨xb, 8, none⟩ (Value.int IntKind.u64 (IntKind.u64.wrap ((Play.sw r p a).c.gen - g0)))) = W9 at *
        obtain ⟨i0, hi0, hz0, hz1, hz2⟩ := info_parts infoAns
        have hob : (p.sw r a).out.length ≤ 100000 := by rw [Play.sw_out, B3.out]; omega
        have hbase := S9.out.bel.size
        go_wp2_with (refine wpList_append_lies _ (by rfl) _ _ _ (by rfl) w.heap.size 39 i0 (.agg #[.int .i64 0, .int .i64 0, .int .u32 0, .int .u32 0, .int .u32 0, .int .u32 0, .int .u32 0, .int .u32 0, .int .u64 0]) 9 48 Try.underlying29 hi0 hz0 hz1 hz2 rfl (by omega) u12 (p.sw r a).out.length (ansFlat (p.sw r a).out) (by rfl) (S9.out.ot.alloc _) ⟨W9.heap.size, 0, none⟩ 1 1 (ansRow ⟨p.code a, p.state a, (p.sw r a).c.rc.tot, w64u ((p.sw r a).c.gen - g0)⟩) (by rfl) rfl (World.news_of_block (heap_alloc_new W9 _)) (by intro u hu; simp [ansRow] at hu; rcases hu with rfl | rfl | rfl | rfl | rfl | rfl | rfl | rfl | rfl <;> rfl) (by omega) (by unfold maxLen; omega) (by omega) (by simp; omega) (W9.heap.size + 1) (by simp) ?_; intro g cp wA hown hgrow hat hlt)
        go_roundg (l.length - (i + 1))
        case measure => omega
        case rel =>
          have SA := (S9.out.alloc _).pushOut hown hgrow (by simpa using hat)
          rw [Play.act_eq] at SA
          obtain ⟨q1, q2, q3⟩ := Play.act_sizes r g0 p a
          refine ⟨i + 1, p.act r g0 a, cr5, rfl, hin, by first | rfl | simp, Lib.hid ⟨SA, hO'.out, HFN.out, ?_, by omega, by omega, by rw [q3, B3.out]⟩⟩
          rw [← HR.out]; exact (Play.run_drop r g0 p LA.out).symm
    · have hiz : ¬ ((i : Int) < (l.length : Int)) := by omega
      have hieq : i = l.length := by omega
      obtain ⟨hS, hO, hFn, hR, b1, b2, b3⟩ := hh.out
      have hp : p = Play.run r g0 (Play.start r start) l := by rw [← hR, hieq, List.drop_length]; rfl
      have HP := Lib.hid hp
      obtain ⟨v, hv, ho, hrw⟩ := hS.sys.bed.bd
      have d1 := blk_cell hv 1
      simp at d1
      have HS' := Lib.hid hS
      have HOW := Lib.hid ho
      have HRW := Lib.hid hrw
      clear hp hieq hS hO hFn hR b1 b2 b3 hv ho hrw hh HF HA
      go_wp2_with fail
      go_region
      go_wp2_with fail
      go_ret2
      refine ⟨u12, v, rfl, ?_, ?_, ?_⟩
      · rw [← G0.out, ← HP.out]; exact HS'.out.ot
      · rw [← G0.out, ← HP.out]
        refine owns_base HOW.out ?_
        intro g hg
        rcases HRW.out with e | e
        · rw [e] at hg; cases hg
        · rw [e] at hg; simp at hg; subst hg; exact HS'.out.old _ (by simp)
      · exact HS'.out.bel.drew

end Go.Proofs.Ytcjklacfoldaoaa
