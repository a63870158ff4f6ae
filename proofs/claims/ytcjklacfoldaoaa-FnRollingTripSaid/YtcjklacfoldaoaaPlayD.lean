/- Contract of PlayCalls. Conditions: the calls are within the bounds, the window does not roll, no request panics unless the law of a panic is at hand, nothing is due behind the last call. -/
import Derived.Test.YtcjklacfoldaoaaPlayC
namespace Go.Proofs.Ytcjklacfoldaoaa
open Go.RowKit
attribute [local go_sem ↓] Go.wp_at_zero Go.wp_at_succ

theorem infoTold : (Try.prog.info? 63).map (fun i => (i.zero, i.size, i.bytes)) = some (some (.agg #[.bool false, .int .i64 0, .int .i64 0, .bool false, .int .u32 0, .int .u32 0, .int .u32 0, .int .u32 0, .int .u32 0, .int .u32 0]), 10, 56) := by kernel_rfl

/-- Where everything lies ahead of a round. -/
structure CSt (w0 : World) (L : Loc) (r : Rules) (wx : World) (p : PC) (cr : Nat) (ov : Value) : Prop where
  sys : Sys wx L cr r p.c p.now p.chs
  ot : wx.ownsRow w0.heap.size 63 10 ov p.out.length (toldFlat p.out)
  ots : ∀ g, ov.ownBlock = some g → Sep L cr g
  old : ∀ i ∈ [L.cb, L.rc, L.bk, L.bd, cr], w0.heap.size ≤ i
  bel : Below w0.heap.size w0 wx
section
variable {w0 wx wy : World} {L : Loc} {cr : Nat} {r : Rules} {p : PC} {ov : Value}
theorem CSt.go (h : CSt w0 L r wx p cr ov) {c' : CB} {now' : Int} {chs' : List (Int × Int)} {cr' : Nat} (s : Sys wy L cr' r c' now' chs') (k : cr' = cr ∨ wx.heap.size ≤ cr') (m : Mod [L.cb, L.rc, L.bk, L.bd, cr] wx wy) : CSt w0 L r wy { p with c := c', now := now', chs := chs' } cr' ov := by
  refine ⟨s, owns_keep h.ot fun g hg => m.block g (h.ot.lt g hg).2 (h.ots g hg), fun g hg => (h.ots g hg).next (h.ot.lt g hg).2 k, ?_, h.bel.trans (m.below_of h.bel.size h.old)⟩
  intro i hi
  have h1 := h.old
  simp at hi h1 ⊢
  rcases hi with e | e | e | e | e
  · omega
  · omega
  · omega
  · omega
  · have := h.bel.size
    rcases k with k | k <;> omega
theorem CSt.below (h : CSt w0 L r wx p cr ov) (b : Below wx.heap.size wx wy) : CSt w0 L r wy p cr ov := by
  have m : Mod [] wx wy := Mod.of_below b
  exact ⟨h.sys.below b, owns_keep h.ot fun g hg => m.block g (h.ot.lt g hg).2 (by simp), h.ots, h.old, h.bel.trans (b.mono h.bel.size)⟩
theorem CSt.alloc (h : CSt w0 L r wx p cr ov) (o : Obj) : CSt w0 L r (wx.alloc o) p cr ov := h.below ((Below.refl _ _).alloc (Nat.le_refl _) _)
theorem CSt.drew (h : CSt w0 L r wx p cr ov) : CSt w0 L r wx.drew p cr ov := h.below (Below.refl _ _).drew
/-- The told of a round has been written: block g. -/
theorem CSt.set (h : CSt w0 L r wx p cr ov) {g : Nat} {cs : Array Value} {fr : Nat × Nat} (hg : wx.heap[g]? = some (.cells cs 63 fr)) (hs : Sep L cr g) (ho : ov.ownBlock ≠ some g) (h0 : w0.heap.size ≤ g) (m : Mod [g] wx wy) : CSt w0 L r wy p cr ov := by
  refine ⟨h.sys.mod1 hg hs (by decide) (by decide) m, owns_keep h.ot fun k hk => m.block k (h.ot.lt k hk).2 (by simp; rintro rfl; exact ho hk), h.ots, h.old, h.bel.trans (m.below_of h.bel.size (by simpa using h0))⟩
theorem CSt.pushOut (h : CSt w0 L r wx p cr ov) {x : Told} {g cap : Nat} (hown : wy.ownsRow w0.heap.size 63 10 (.slice (some ⟨g, 0, none⟩) (p.out.length + 1) cap) (p.out.length + 1) (toldFlat p.out ++ toldRow x)) (hgrow : wx.grownBy wy ov.ownBlock) (hat : ov.ownBlock = some g ∨ g = wx.heap.size) :
    CSt w0 L r wy { p with out := p.out ++ [x] } cr (.slice (some ⟨g, 0, none⟩) (p.out.length + 1) cap) := by
  have key : Sys wy L cr r p.c p.now p.chs ∧ Below w0.heap.size w0 wy := by
    cases hrow : ov.ownBlock with
    | none =>
      rw [hrow] at hgrow
      have b : Below wx.heap.size wx wy := ⟨hgrow.os, hgrow.tape, hgrow.output, hgrow.size, fun k hk => hgrow.block k hk (by simp)⟩
      exact ⟨(h.below b).sys, (h.below b).bel⟩
    | some k =>
      rw [hrow] at hgrow
      obtain ⟨h0, cs, fr, hk⟩ := own_block h.ot hrow
      have m : Mod [k] wx wy := Mod.of_grown hgrow (by intro j hj; simp at hj; simp [hj])
      exact ⟨h.sys.mod1 hk (h.ots k hrow) (by decide) (by decide) m, h.bel.trans (m.below_of h.bel.size (by simpa using h0))⟩
  refine ⟨key.1, by rw [toldFlat_snoc, List.length_append]; exact hown, ?_, h.old, key.2⟩
  intro k hk
  simp [Value.ownBlock] at hk
  subst hk
  rcases hat with e | e
  · exact h.ots _ e
  · rw [e]; exact h.sys.sep (Nat.le_refl _)
end

set_option maxRecDepth 100000 in
set_option maxHeartbeats 4000000 in
theorem playCalls_any (r : Rules) (start : Int) (va : Value) (l : List Call) (w : World) (hb : r.bucket ≤ 0) (rok : r.Ok) (h1 : r.interval ≤ 1000000000000000000) (h2 : r.timeout ≤ 1000000000000000000) (t0 : -3000000000000000000 ≤ start) (t1 : start ≤ 3000000000000000000)
    (ha : CallsAt w va l) (hl : l.length ≤ 100000) (hf : PC.Fine r (PC.start r start) l) (hp : (∀ k ∈ l, k.pan = false) ∨ PanSaid) (hid : (PC.run r (PC.start r start) l).c.Idle (PC.run r (PC.start r start) l).now) :
    Calls Try.prog 26 #[.agg #[.string r.name, .int .u32 r.most, .int .i64 r.interval, .int .i64 r.bucket, .int .i64 r.timeout, .int .i64 r.trip, .int .u32 r.bound, .bool r.hasGood, .int .u8 r.good, .bool r.hasOut, .int .u8 r.out], .int .i64 start, va] w fun e w' =>
      ∃ vo vc, e = .returned (.tuple #[vo, vc, .int .i64 (PC.run r (PC.start r start) l).c.state]) ∧ w'.ownsRow w.heap.size 63 10 vo (PC.run r (PC.start r start) l).out.length (toldFlat (PC.run r (PC.start r start) l).out) ∧
        w'.ownsRow w.heap.size 34 2 vc (PC.run r (PC.start r start) l).chs.length (chFlat (PC.run r (PC.start r start) l).chs) ∧ Below w.heap.size w w' := by
  obtain ⟨pa, cap, rfl, hacts⟩ := ha
  have HA := Lib.hid hacts
  have HF := Lib.hid hf
  have HPP := Lib.hid hp
  have HID := Lib.hid hid
  clear hacts hf hp hid
  go_enter Try.func26, Try.ntmps26
  go_wp2_with fail
  have hz2 : ((w.alloc (Obj.cells (rulesArr r) 24)).alloc (Obj.cells #[Value.int IntKind.i64 start, Value.slice none 0 0] 74)).heap.size = w.heap.size + 2 := by simp
  have hbd2 : ((w.alloc (Obj.cells (rulesArr r) 24)).alloc (Obj.cells #[Value.int IntKind.i64 start, Value.slice none 0 0] 74)).heap[w.heap.size + 1]? = some (Obj.cells #[Value.int IntKind.i64 start, Value.slice none 0 0] 74 (0, 0)) := heap_alloc_at (by simp)
  refine (settings_any (w.heap.size + 1) r ((w.alloc (Obj.cells (rulesArr r) 24)).alloc (Obj.cells #[Value.int IntKind.i64 start, Value.slice none 0 0] 74))).mono ?_
  rintro e w1 ⟨bp, rs, rb, rfl, hp, hrs, hrb, ebp, ers, qrb, hB⟩
  rw [hz2] at ebp ers qrb hB
  have hbd1 := (hB.block (w.heap.size + 1) (by omega)).trans hbd2
  have hB0 : Below w.heap.size w w1 := (((Below.refl _ _).alloc (Nat.le_refl _) _).alloc (by simp) _).trans (hB.mono (by omega))
  have hz1 := hB.size
  rw [hz2] at hz1
  have hbed : BedAt w1 (newL w1.heap.size (w.heap.size + 1) bp rb rs) w.heap.size start [] := ⟨hp, _, hbd1, World.ownsRow_nil _ _ _ _, .inl rfl⟩
  have hnew := newCb_one (w.heap.size + 1) bp rb rs w.heap.size start [] r w1 hb hbed hrb hrs (by omega) (by omega) (by omega) (by omega) (by omega) (by omega) (by omega) (by omega) rok h1 h2 t0 t1
  have HN := Lib.hid hnew
  have HB0 := Lib.hid hB0
  have zz1 : w.heap.size + 2 ≤ w1.heap.size := hz1
  clear hp hrs hrb hB hbd1 hB0 hz1 hbed hnew hbd2 hz2 ebp ers qrb
  go_wp2_with fail
  refine HN.out.mono ?_
  rintro e w2 ⟨rfl, hS, hB2⟩
  obtain ⟨L, hL⟩ : ∃ L, L = newL w1.heap.size (w.heap.size + 1) bp rb rs := ⟨_, rfl⟩
  rw [← hL] at hS
  have hLbd : w.heap.size + 1 = L.bd := by rw [hL]
  have hLcb : w1.heap.size + 1 = L.cb := by rw [hL]
  have hold : ∀ i ∈ [L.cb, L.rc, L.bk, L.bd, w.heap.size], w.heap.size ≤ i := by
    rw [hL]; simp; omega
  have S2 := Lib.hid (show CSt w L r w2 (PC.start r start) w.heap.size (.slice none 0 0) from
    ⟨hS, World.ownsRow_nil _ _ _ _, by simp [Value.ownBlock], hold, HB0.out.trans (hB2.mono (by omega))⟩)
  rw [hLbd, hLcb]
  clear hS hB2 hL hold HN HB0 hLbd hLcb
  go_wp2_with fail
  go_loopg [11, 24] l.length (fun g s11 s24 wx => ∃ (i : Nat) (p : PC) (cr : Nat), g = l.length - i ∧ i ≤ l.length ∧ s24 = .int .i64 (i : Int) ∧ Hid (CSt w L r wx p cr s11 ∧ p.c.One ∧ PC.Fine r p (l.drop i) ∧ PC.run r p (l.drop i) = PC.run r (PC.start r start) l ∧ p.chs.length ≤ 3 * i ∧ p.out.length = i))
  case atStart =>
    exact ⟨0, PC.start r start, w.heap.size, rfl, Nat.zero_le _, rfl, Lib.hid ⟨S2.out, ⟨by simp [PC.start, CB.newGen, RC.clear, freshCB], by simp [PC.start, CB.newGen, RC.clear]⟩, HF.out, rfl, by simp [PC.start], by simp [PC.start]⟩⟩
  case round =>
    obtain ⟨i, p, cr, rfl, hi, rfl, hh⟩ := hrel
    by_cases hin : i < l.length
    · have hiz : (i : Int) < (l.length : Int) := by omega
      obtain ⟨a, hla⟩ : ∃ a, l[i]? = some a := ⟨_, List.getElem?_eq_getElem hin⟩
      obtain ⟨ab, ao, rfl, hblk, hcell⟩ := HA.out i a hla
      have hbc := fun j u hj => (hh.out.1.bel.cell (p := ⟨ab, ao + i * 5 + j, none⟩) hblk).trans (hcell j u hj)
      have k0 : wr.cell? ⟨ab, ao + i * 5, none⟩ = some (.int .i64 a.wait) := hbc 0 _ rfl
      have k1 := hbc 1 _ rfl
      have k2 := hbc 2 _ rfl
      have k3 := hbc 3 _ rfl
      have k4 := hbc 4 _ rfl
      clear hbc hcell
      have LA := Lib.hid hla
      have PAN := Lib.hid (show a.pan = false ∨ PanSaid from HPP.out.imp (fun h => h a (List.mem_of_getElem? hla)) id)
      clear hla
      obtain ⟨hS, hO, hFn, hR, b1, b3⟩ := hh.out
      obtain ⟨can, hFn'⟩ := PC.fine_drop r p LA.out hFn
      have HO := Lib.hid hO
      have HFN := Lib.hid hFn'
      have HR := Lib.hid hR
      have B3 := Lib.hid b3
      have CAN := Lib.hid can
      have n0 := can.now0
      have n1 := can.now1
      have n2 := can.wait0
      have n3 := can.long0
      have S1 := Lib.hid (hS.alloc (Obj.cells (callArr a) 57))
      have A1 := Lib.hid (heap_alloc_new wr (Obj.cells (callArr a) 57))
      have P1 := Lib.hid (hS.sys.sep (Nat.le_refl _))
      unfold callArr at S1 A1
      go_upto_region 7 with fail
      obtain ⟨ba, hba⟩ : ∃ k, k = wr.heap.size := ⟨_, rfl⟩
      rw [← hba] at A1 P1
      have zlt : ba < (wr.alloc (Obj.cells #[Value.int IntKind.i64 a.wait, Value.int IntKind.i64 a.long, Value.int IntKind.i64 a.val, Value.int IntKind.i64 a.err, Value.bool a.pan] 57)).heap.size := by rw [hba]; simp
      rw [← hba]
      clear hba hO hFn hFn' hR b3 can hS hh k0 k1 k2 k3 k4 hblk
      generalize (wr.alloc (Obj.cells #[Value.int IntKind.i64 a.wait, Value.int IntKind.i64 a.long, Value.int IntKind.i64 a.val, Value.int IntKind.i64 a.err, Value.bool a.pan] 57)) = W1 at *
      obtain ⟨bv, hbv, _, _⟩ := S1.out.sys.bed.bd
      have d0 := blk_cell hbv 0
      have d1 := blk_free hbv 0
      simp at d0
      have a0 := blk_cell A1.out
      have y0 := size_of_heap hbv
      clear hbv
      go_region
      obtain ⟨cr2, s2, k2, m2⟩ := Evo.tick S1.out.sys (now' := p.now + a.wait) (by omega) (by omega)
      have S2 := Lib.hid ((S1.out.go s2 k2 m2).drew)
      have A2 := Lib.hid (heap_drew (m2.heap A1.out P1.out))
      clear s2 k2 m2 d0 d1 a0 y0 zlt S1 A1 P1
      generalize (W1.setCell ⟨L.bd, 0, none⟩ (Value.int IntKind.i64 (p.now + a.wait))).drew = W2 at *
      have a0 := blk_cell A2.out
      have zlt := size_of_heap A2.out
      go_wp2_with fail
      refine (execute_any L cr2 r p.c (p.now + a.wait) p.chs a W2 S2.out.sys (by omega) HO.out PAN.out n3 (by omega) (by omega) CAN.out.err0 CAN.out.err1).mono ?_
      rintro e w4 ⟨rfl, cr4, s4, k4, m4⟩
      have S4 := Lib.hid ((S2.out.go s4 k4 m4).alloc (Obj.cells (toldArr (execTold p.c (p.now + a.wait) a)) 63))
      have X4 := Lib.hid (heap_alloc_new w4 (Obj.cells (toldArr (execTold p.c (p.now + a.wait) a)) 63))
      have Q4 := Lib.hid (s4.sep (Nat.le_refl _))
      have V4 := Lib.hid ((S2.out.go s4 k4 m4).bel.size)
      have U4 := Lib.hid (show u11.ownBlock ≠ some w4.heap.size from fun h => absurd ((S2.out.go s4 k4 m4).ot.lt _ h).2 (Nat.lt_irrefl _))
      clear s4 k4 m4 a0 zlt A2 S2
      unfold toldArr at S4 X4 ⊢
      go_upto_region 9 with fail
      obtain ⟨xb, hxb⟩ : ∃ k, k = w4.heap.size := ⟨_, rfl⟩
      rw [← hxb] at X4 Q4 V4 U4
      rw [← hxb]
      clear hxb
      obtain ⟨t, ht⟩ : ∃ t, t = execTold p.c (p.now + a.wait) a := ⟨_, rfl⟩
      rw [← ht] at X4 S4 ⊢
      have TT := Lib.hid ht
      clear ht
      generalize (w4.alloc (Obj.cells #[Value.bool t.ran, Value.int IntKind.i64 t.val, Value.int IntKind.i64 t.err, Value.bool t.pan, Value.int IntKind.u32 t.cnt.r, Value.int IntKind.u32 t.cnt.s, Value.int IntKind.u32 t.cnt.f, Value.int IntKind.u32 t.cnt.x, Value.int IntKind.u32 t.cnt.g, Value.int IntKind.u32 t.cnt.h] 63)) = W5 at *
      go_wp2_with fail
      refine (cbCounts_any L r (execC r p.c (p.now + a.wait) a) W5 S4.out.sys.cb).mono ?_
      rintro e w6 ⟨rfl, hb6⟩
      have S6 := Lib.hid (S4.out.below hb6)
      obtain ⟨_, _, _, HX6⟩ := kept hb6 X4.out
      have X6 := Lib.hid HX6
      clear hb6 HX6 S4 X4
      go_wp2_with fail
      refine (counts_any _ _).mono ?_
      rintro e w7 ⟨rfl, hb7⟩
      have S7 := Lib.hid (S6.out.below hb7)
      obtain ⟨x7, f7, zx7, HX7⟩ := kept hb7 X6.out
      have X7 := Lib.hid HX7
      clear hb7 HX7 S6 X6
      go_upto_region 10 with fail
      have m8 : Mod [xb] w7 ((((((w7.setCell ⟨xb, 4, none⟩ (Value.int IntKind.u32 (execC r p.c (p.now + a.wait) a).rc.tot.r)).setCell ⟨xb, 5, none⟩ (Value.int IntKind.u32 (execC r p.c (p.now + a.wait) a).rc.tot.s)).setCell ⟨xb, 6, none⟩ (Value.int IntKind.u32 (execC r p.c (p.now + a.wait) a).rc.tot.f)).setCell ⟨xb, 7, none⟩ (Value.int IntKind.u32 (execC r p.c (p.now + a.wait) a).rc.tot.x)).setCell ⟨xb, 8, none⟩ (Value.int IntKind.u32 (execC r p.c (p.now + a.wait) a).rc.tot.g)).setCell ⟨xb, 9, none⟩ (Value.int IntKind.u32 (execC r p.c (p.now + a.wait) a).rc.tot.h)) := ((((((Mod.refl [xb] w7).setCell _ _ (by simp)).setCell _ _ (by simp)).setCell _ _ (by simp)).setCell _ _ (by simp)).setCell _ _ (by simp)).setCell _ _ (by simp)
      have S8 := Lib.hid (S7.out.set X7.out Q4.out U4.out V4.out m8)
      have HX8 : ((((((w7.setCell ⟨xb, 4, none⟩ (Value.int IntKind.u32 (execC r p.c (p.now + a.wait) a).rc.tot.r)).setCell ⟨xb, 5, none⟩ (Value.int IntKind.u32 (execC r p.c (p.now + a.wait) a).rc.tot.s)).setCell ⟨xb, 6, none⟩ (Value.int IntKind.u32 (execC r p.c (p.now + a.wait) a).rc.tot.f)).setCell ⟨xb, 7, none⟩ (Value.int IntKind.u32 (execC r p.c (p.now + a.wait) a).rc.tot.x)).setCell ⟨xb, 8, none⟩ (Value.int IntKind.u32 (execC r p.c (p.now + a.wait) a).rc.tot.g)).setCell ⟨xb, 9, none⟩ (Value.int IntKind.u32 (execC r p.c (p.now + a.wait) a).rc.tot.h)).heap[xb]? = some (Obj.cells #[Value.bool t.ran, Value.int IntKind.i64 t.val, Value.int IntKind.i64 t.err, Value.bool t.pan, Value.int IntKind.u32 (execC r p.c (p.now + a.wait) a).rc.tot.r, Value.int IntKind.u32 (execC r p.c (p.now + a.wait) a).rc.tot.s, Value.int IntKind.u32 (execC r p.c (p.now + a.wait) a).rc.tot.f, Value.int IntKind.u32 (execC r p.c (p.now + a.wait) a).rc.tot.x, Value.int IntKind.u32 (execC r p.c (p.now + a.wait) a).rc.tot.g, Value.int IntKind.u32 (execC r p.c (p.now + a.wait) a).rc.tot.h] 63 (0, 0)) := (heap_set_same (heap_set_same (heap_set_same (heap_set_same (heap_set_same (heap_set_same X7.out)))))).trans (by simp)
      have x9 := blk_cell HX8
      have zx9 := size_of_heap HX8
      clear m8 HX8 S7 X7 x7 f7 zx7
      generalize ((((((w7.setCell ⟨xb, 4, none⟩ (Value.int IntKind.u32 (execC r p.c (p.now + a.wait) a).rc.tot.r)).setCell ⟨xb, 5, none⟩ (Value.int IntKind.u32 (execC r p.c (p.now + a.wait) a).rc.tot.s)).setCell ⟨xb, 6, none⟩ (Value.int IntKind.u32 (execC r p.c (p.now + a.wait) a).rc.tot.f)).setCell ⟨xb, 7, none⟩ (Value.int IntKind.u32 (execC r p.c (p.now + a.wait) a).rc.tot.x)).setCell ⟨xb, 8, none⟩ (Value.int IntKind.u32 (execC r p.c (p.now + a.wait) a).rc.tot.g)).setCell ⟨xb, 9, none⟩ (Value.int IntKind.u32 (execC r p.c (p.now + a.wait) a).rc.tot.h)) = W9 at *
      obtain ⟨i0, hi0, hz0, hz1, hz2⟩ := info_parts infoTold
      have hob : p.out.length ≤ 100000 := by have := B3.out; omega
      have hbase := S8.out.bel.size
      go_wp2_with (refine wpList_append_lies _ (by rfl) _ _ _ (by rfl) w.heap.size 63 i0 (.agg #[.bool false, .int .i64 0, .int .i64 0, .bool false, .int .u32 0, .int .u32 0, .int .u32 0, .int .u32 0, .int .u32 0, .int .u32 0]) 10 56 Try.underlying59 hi0 hz0 hz1 hz2 rfl (by omega) u11 p.out.length (toldFlat p.out) (by rfl) (S8.out.ot.alloc _) ⟨W9.heap.size, 0, none⟩ 1 1 (toldRow { t with cnt := (execC r p.c (p.now + a.wait) a).rc.tot }) (by rfl) rfl (World.news_of_block (heap_alloc_new W9 _)) (by intro u hu; simp [toldRow] at hu; rcases hu with rfl | rfl | rfl | rfl | rfl | rfl | rfl | rfl | rfl | rfl <;> rfl) (by omega) (by unfold maxLen; omega) (by omega) (by simp; omega) (W9.heap.size + 1) (by simp) ?_; intro g cp wA hown hgrow hat hlt)
      go_roundg (l.length - (i + 1))
      case measure => omega
      case rel =>
        have SA := (S8.out.alloc (Obj.cells (toldRow { t with cnt := (execC r p.c (p.now + a.wait) a).rc.tot }).toArray 63)).pushOut hown hgrow (by simpa using hat)
        have hx : (⟨(execC r p.c (p.now + a.wait) a), execNow p.c (p.now + a.wait) a, p.chs ++ execChs r p.c (p.now + a.wait) a, p.out ++ [{ t with cnt := (execC r p.c (p.now + a.wait) a).rc.tot }]⟩ : PC) = p.step r a := by rw [TT.out]; rfl
        have SA' : CSt w L r wA (p.step r a) cr4 (.slice (some ⟨g, 0, none⟩) (p.out.length + 1) cp) := by rw [← hx]; exact SA
        have q1 := execChs_len r p.c (p.now + a.wait) a
        refine ⟨i + 1, p.step r a, cr4, rfl, hin, by first | rfl | simp, Lib.hid ⟨SA', HO.out.exec r _ a, HFN.out, ?_, ?_, ?_⟩⟩
        · rw [← HR.out]; exact (PC.run_drop r p LA.out).symm
        · show (p.chs ++ execChs r p.c (p.now + a.wait) a).length ≤ 3 * (i + 1)
          rw [List.length_append]; omega
        · show (p.out ++ [_]).length = i + 1
          rw [List.length_append, B3.out]; rfl
    · have hiz : ¬ ((i : Int) < (l.length : Int)) := by omega
      have hieq : i = l.length := by omega
      obtain ⟨hS, hO, hFn, hR, b1, b3⟩ := hh.out
      have hpp : p = PC.run r (PC.start r start) l := by rw [← hR, hieq, List.drop_length]; rfl
      have HP := Lib.hid hpp
      obtain ⟨v, hv, ho, hrw⟩ := hS.sys.bed.bd
      have d1 := blk_cell hv 1
      simp at d1
      have HV := Lib.hid hv
      have HS' := Lib.hid hS
      have HOW := Lib.hid ho
      have HRW := Lib.hid hrw
      have HCI := Lib.hid (cbState_idle L cr r p.c p.now p.chs wr.drew hS.drew.sys (by omega) (by rw [hpp]; exact HID.out))
      have zb := size_of_heap hv
      clear hpp hieq hS hO hFn hR b1 b3 hv ho hrw hh HF HA
      go_upto_region 12 with fail
      go_region_held3 (fun w' => w'.cell? ⟨L.bd, 1, none⟩ = some v) (first | (go_keep; done) | ((try dsimp only); exact p1))
        ((first | (go_at_call 51; refine HCI.out.mono ?_; rintro e w2 ⟨rfl, hb2⟩; have p1 := blk_cell ((hb2.block L.bd zb).trans HV.out) 1; simp at p1)))
      go_wp2_with fail
      go_ret3
      have BB : Below wr.heap.size wr w2 := ((Below.refl _ _).drew).trans hb2
      refine ⟨u11, v, by rw [← HP.out]; rfl, ?_, ?_, HS'.out.bel.trans (BB.mono HS'.out.bel.size)⟩
      · rw [← HP.out]
        exact owns_keep HS'.out.ot fun g hg => BB.block g (HS'.out.ot.lt g hg).2
      · rw [← HP.out]
        refine owns_base (owns_keep HOW.out fun g hg => BB.block g (HOW.out.lt g hg).2) ?_
        intro g hg
        rcases HRW.out with e | e
        · rw [e] at hg; cases hg
        · rw [e] at hg; simp at hg; subst hg; exact HS'.out.old _ (by simp)

end Go.Proofs.Ytcjklacfoldaoaa
