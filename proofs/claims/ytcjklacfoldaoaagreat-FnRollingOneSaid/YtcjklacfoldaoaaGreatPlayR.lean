/- PlayCalls for a breaker of which NewCircuitBreaker's contract is at hand. Conditions: the calls are within the bounds, none panics, the window's law is at hand. -/
import Derived.Test.YtcjklacfoldaoaaGreatPlayZ
namespace Go.Proofs.YtcjklacfoldaoaaGreat
open Go.RowKit
attribute [local go_sem ↓] Go.wp_at_zero Go.wp_at_succ

/-- What NewCircuitBreaker makes of the settings of rules. -/
def NewSaid (r : Rules) (c0 : CB) : Prop := ∀ (bd bp rb rs cr : Nat) (now : Int) (chs : List (Int × Int)) (w : World), BedAt w (newL w.heap.size bd bp rb rs) cr now chs →
    w.heap[rb]? = some (.cells (rulesArr r) 24 (0, 0)) → w.heap[rs]? = some (.cells (rulesArr r) 24 (0, 0)) → bd ≠ bp → bd ≠ rb → bd ≠ rs →
    cr < w.heap.size → cr ≠ bd → cr ≠ bp → cr ≠ rb → cr ≠ rs → -3000000000000000000 ≤ now → now ≤ 3000000000000000000 →
    Calls Tryz.prog 22 #[.agg #[Value.func (Fn.func 44) #[] #[Value.pointer (some ⟨bp, 0, none⟩)], Value.string r.name, Value.int IntKind.u32 r.most, Value.int IntKind.i64 r.interval, Value.int IntKind.i64 r.bucket, Value.int IntKind.i64 r.timeout, tripRaw rb r, Value.func (Fn.func 47) #[] #[Value.pointer (some ⟨bp, 0, none⟩)], goodRaw rs r, outRaw rs r]] w fun e w' => e = .returned (.pointer (some ⟨w.heap.size + 1, 0, none⟩)) ∧ Sys w' (newL w.heap.size bd bp rb rs) cr r (c0.newGen now) now chs ∧ Below w.heap.size w w'

/-- What State tells where nothing is due. -/
def CB.IdleR (c : CB) (now : Int) : Prop := ∀ (L : Loc) (cr : Nat) (r : Rules) (chs : List (Int × Int)) (w : World), Sys w L cr r c now chs → chs.length ≤ 1000000 →
    Calls Tryz.prog 27 #[.pointer (some ⟨L.cb, 0, none⟩)] w fun e w' => e = .returned (.int .i64 c.state) ∧ Below w.heap.size w w'
theorem CB.Idle.r {c : CB} {now : Int} (h : c.Idle now) : c.IdleR now := fun L cr r chs w hs hl => cbState_idle L cr r c now chs w hs hl h
/-- What a call asks of the breaker ahead of it. -/
structure CB.Ready (c : CB) (now : Int) (k : Call) : Prop where
  w1 : Win c now
  pan : k.pan = false
  w2 : (c.look now).beforeCode = 0 → Win (c.look now).before1 (now + k.long)
  hit : (c.look now).beforeCode = 0 → ((c.look now).before1.look (now + k.long)).gen = (c.look now).gen → Hit ((c.look now).before1.look (now + k.long)) (c.look now).rc.age
namespace PC
def fresh (c0 : CB) (now : Int) : PC := ⟨c0.newGen now, now, [], []⟩
def FineR (r : Rules) : PC → List Call → Prop
  | _, [] => True
  | p, k :: l => p.Can k ∧ p.c.Ready (p.now + k.wait) k ∧ FineR r (p.step r k) l
theorem fineR_drop (r : Rules) (p : PC) {l : List Call} {i : Nat} {a : Call} (h : l[i]? = some a) (hf : FineR r p (l.drop i)) : p.Can a ∧ p.c.Ready (p.now + a.wait) a ∧ FineR r (p.step r a) (l.drop (i + 1)) := by
  have hi : i < l.length := by
    rcases Nat.lt_or_ge i l.length with h' | h'
    · exact h'
    · rw [List.getElem?_eq_none h'] at h; cases h
  rw [List.drop_eq_getElem_cons hi] at hf
  rw [List.getElem?_eq_getElem hi] at h
  simp at h
  rw [h] at hf
  exact hf
end PC
theorem executeR_any (L : Loc) (cr : Nat) (r : Rules) (c : CB) (now : Int) (chs : List (Int × Int)) (k : Call) (w : World) (h : Sys w L cr r c now chs) (hlen : chs.length ≤ 999990) (hr : c.Ready now k)
    (l0 : 0 ≤ k.long) (n0 : -3000000000000000000 ≤ now) (n1 : now + k.long ≤ 3000000000000000000) (e0 : 0 ≤ k.err) (e1 : k.err ≤ 6) :
    Calls Tryz.prog 24 #[.pointer (some ⟨L.cb, 0, none⟩), .pointer (some ⟨L.bd, 0, none⟩), .agg (callArr k)] w fun e w' =>
      e = .returned (.agg (toldArr (execTold c now k))) ∧ Evo L r w cr w' (execC r c now k) (execNow c now k) (chs ++ execChs r c now k) := by
  unfold execTold execC execNow execChs execErr
  have hk := hr.pan
  by_cases hc : (c.look now).beforeCode = 0
  · simp only [if_pos hc]
    rw [← List.append_assoc]
    simp only [hk, Bool.false_eq_true, if_false]
    exact execute_ok L cr r c now chs k w h hlen hr.w1 hc hk l0 n0 n1 e0 e1 (hr.w2 hc) (hr.hit hc)
  · simp only [if_neg hc]
    rw [List.append_nil]
    have := beforeCode_or _ hc
    exact execute_no L cr r c now chs k w h hlen hr.w1 this

set_option maxRecDepth 100000 in
set_option maxHeartbeats 4000000 in
theorem playR_any (r : Rules) (start : Int) (va : Value) (l : List Call) (w : World) (c0 : CB) (hnw : NewSaid r c0) (t0 : -3000000000000000000 ≤ start) (t1 : start ≤ 3000000000000000000)
    (ha : CallsAt w va l) (hl : l.length ≤ 100000) (hf : PC.FineR r (PC.fresh c0 start) l) (hid : (PC.run r (PC.fresh c0 start) l).c.IdleR (PC.run r (PC.fresh c0 start) l).now) :
    Calls Tryz.prog 11 #[.agg #[.string r.name, .int .u32 r.most, .int .i64 r.interval, .int .i64 r.bucket, .int .i64 r.timeout, .int .i64 r.trip, .int .u32 r.bound, .bool r.hasGood, .int .u8 r.good, .bool r.hasOut, .int .u8 r.out], .int .i64 start, va] w fun e w' =>
      ∃ vo vc, e = .returned (.tuple #[vo, vc, .int .i64 (PC.run r (PC.fresh c0 start) l).c.state]) ∧ w'.ownsRow w.heap.size 40 10 vo (PC.run r (PC.fresh c0 start) l).out.length (toldFlat (PC.run r (PC.fresh c0 start) l).out) ∧
        w'.ownsRow w.heap.size 85 2 vc (PC.run r (PC.fresh c0 start) l).chs.length (chFlat (PC.run r (PC.fresh c0 start) l).chs) ∧ Below w.heap.size w w' := by
  obtain ⟨pa, cap, rfl, hacts⟩ := ha
  have HA := Lib.hid hacts
  have HF := Lib.hid hf
  have HID := Lib.hid hid
  clear hacts hf hid
  go_enter Tryz.func11, Tryz.ntmps11
  go_wp2_with fail
  have hz2 : ((w.alloc (Obj.cells (rulesArr r) 24)).alloc (Obj.cells #[Value.int IntKind.i64 start, Value.slice none 0 0] 59)).heap.size = w.heap.size + 2 := by simp
  have hbd2 : ((w.alloc (Obj.cells (rulesArr r) 24)).alloc (Obj.cells #[Value.int IntKind.i64 start, Value.slice none 0 0] 59)).heap[w.heap.size + 1]? = some (Obj.cells #[Value.int IntKind.i64 start, Value.slice none 0 0] 59 (0, 0)) := heap_alloc_at (by simp)
  refine (settings_any (w.heap.size + 1) r ((w.alloc (Obj.cells (rulesArr r) 24)).alloc (Obj.cells #[Value.int IntKind.i64 start, Value.slice none 0 0] 59))).mono ?_
  rintro e w1 ⟨bp, rs, rb, rfl, hp, hrs, hrb, ebp, ers, qrb, hB⟩
  rw [hz2] at ebp ers qrb hB
  have hbd1 := (hB.block (w.heap.size + 1) (by omega)).trans hbd2
  have hB0 : Below w.heap.size w w1 := (((Below.refl _ _).alloc (Nat.le_refl _) _).alloc (by simp) _).trans (hB.mono (by omega))
  have hz1 := hB.size
  rw [hz2] at hz1
  have hbed : BedAt w1 (newL w1.heap.size (w.heap.size + 1) bp rb rs) w.heap.size start [] := ⟨hp, _, hbd1, World.ownsRow_nil _ _ _ _, .inl rfl⟩
  have hnew := hnw (w.heap.size + 1) bp rb rs w.heap.size start [] w1 hbed hrb hrs (by omega) (by omega) (by omega) (by omega) (by omega) (by omega) (by omega) (by omega) t0 t1
  have HN := Lib.hid hnew
  have HB0 := Lib.hid hB0
  have zz1 : w.heap.size + 2 ≤ w1.heap.size := hz1
  clear hp hrs hrb hB hbd1 hB0 hz1 hbed hnew hbd2 hz2 ebp ers qrb
  go_wp2_with fail
  refine HN.out.mono ?_
  rintro e w2 ⟨rfl, hS, hB2⟩
  obtain ⟨L, hL⟩ : ∃ L, L = newL w1.heap.size (w.heap.size + 1) bp rb rs := ⟨_, rfl⟩
  rw [← hL] at hS
  have hLbd : w.heap.size + 1 = L.bd := by rw [hL]
  have hLcb : w1.heap.size + 1 = L.cb := by rw [hL]
  have hold : ∀ i ∈ [L.cb, L.rc, L.bk, L.bd, w.heap.size], w.heap.size ≤ i := by
    rw [hL]; simp; omega
  have S2 := Lib.hid (show CSt w L r w2 (PC.fresh c0 start) w.heap.size (.slice none 0 0) from
    ⟨hS, World.ownsRow_nil _ _ _ _, by simp [Value.ownBlock], hold, HB0.out.trans (hB2.mono (by omega))⟩)
  rw [hLbd, hLcb]
  clear hS hB2 hL hold HN HB0 hLbd hLcb
  go_wp2_with fail
  go_loopg [11, 24] l.length (fun g s11 s24 wx => ∃ (i : Nat) (p : PC) (cr : Nat), g = l.length - i ∧ i ≤ l.length ∧ s24 = .int .i64 (i : Int) ∧ Hid (CSt w L r wx p cr s11 ∧ PC.FineR r p (l.drop i) ∧ PC.run r p (l.drop i) = PC.run r (PC.fresh c0 start) l ∧ p.chs.length ≤ 3 * i ∧ p.out.length = i))
  case atStart =>
    exact ⟨0, PC.fresh c0 start, w.heap.size, rfl, Nat.zero_le _, rfl, Lib.hid ⟨S2.out, HF.out, rfl, by simp [PC.fresh], by simp [PC.fresh]⟩⟩
  case round =>
    obtain ⟨i, p, cr, rfl, hi, rfl, hh⟩ := hrel
    by_cases hin : i < l.length
    · have hiz : (i : Int) < (l.length : Int) := by omega
      obtain ⟨a, hla⟩ : ∃ a, l[i]? = some a := ⟨_, List.getElem?_eq_getElem hin⟩
      obtain ⟨ab, ao, rfl, hblk, hcell⟩ := HA.out i a hla
      have hbc := fun j u hj => (hh.out.1.bel.cell (p := ⟨ab, ao + i * 5 + j, none⟩) hblk).trans (hcell j u hj)
      have k0 : wr.cell? ⟨ab, ao + i * 5, none⟩ = some (.int .i64 a.wait) := hbc 0 _ rfl
      have k1 := hbc 1 _ rfl
      have k2 := hbc 2 _ rfl
      have k3 := hbc 3 _ rfl
      have k4 := hbc 4 _ rfl
      clear hbc hcell
      have LA := Lib.hid hla
      clear hla
      obtain ⟨hS, hFn, hR, b1, b3⟩ := hh.out
      obtain ⟨can, rdy, hFn'⟩ := PC.fineR_drop r p LA.out hFn
      have RDY := Lib.hid rdy
      have HFN := Lib.hid hFn'
      have HR := Lib.hid hR
      have B3 := Lib.hid b3
      have CAN := Lib.hid can
      have n0 := can.now0
      have n1 := can.now1
      have n2 := can.wait0
      have n3 := can.long0
      have S1 := Lib.hid (hS.alloc (Obj.cells (callArr a) 36))
      have A1 := Lib.hid (heap_alloc_new wr (Obj.cells (callArr a) 36))
      have P1 := Lib.hid (hS.sys.sep (Nat.le_refl _))
      unfold callArr at S1 A1
      go_upto_region 7 with fail
      obtain ⟨ba, hba⟩ : ∃ k, k = wr.heap.size := ⟨_, rfl⟩
      rw [← hba] at A1 P1
      have zlt : ba < (wr.alloc (Obj.cells #[Value.int IntKind.i64 a.wait, Value.int IntKind.i64 a.long, Value.int IntKind.i64 a.val, Value.int IntKind.i64 a.err, Value.bool a.pan] 36)).heap.size := by rw [hba]; simp
      rw [← hba]
      clear hba hFn hFn' hR b3 can rdy hS hh k0 k1 k2 k3 k4 hblk
      generalize (wr.alloc (Obj.cells #[Value.int IntKind.i64 a.wait, Value.int IntKind.i64 a.long, Value.int IntKind.i64 a.val, Value.int IntKind.i64 a.err, Value.bool a.pan] 36)) = W1 at *
      obtain ⟨bv, hbv, _, _⟩ := S1.out.sys.bed.bd
      have d0 := blk_cell hbv 0
      have d1 := blk_free hbv 0
      simp at d0
      have a0 := blk_cell A1.out
      have y0 := size_of_heap hbv
      clear hbv
      go_region
      obtain ⟨cr2, s2, k2, m2⟩ := Evo.tick S1.out.sys (now' := p.now + a.wait) (by omega) (by omega)
      have S2 := Lib.hid ((S1.out.go s2 k2 m2).drew)
      have A2 := Lib.hid (heap_drew (m2.heap A1.out P1.out))
      clear s2 k2 m2 d0 d1 a0 y0 zlt S1 A1 P1
      generalize (W1.setCell ⟨L.bd, 0, none⟩ (Value.int IntKind.i64 (p.now + a.wait))).drew = W2 at *
      have a0 := blk_cell A2.out
      have zlt := size_of_heap A2.out
      go_wp2_with fail
      refine (executeR_any L cr2 r p.c (p.now + a.wait) p.chs a W2 S2.out.sys (by omega) RDY.out n3 (by omega) (by omega) CAN.out.err0 CAN.out.err1).mono ?_
      rintro e w4 ⟨rfl, cr4, s4, k4, m4⟩
      have S4 := Lib.hid ((S2.out.go s4 k4 m4).alloc (Obj.cells (toldArr (execTold p.c (p.now + a.wait) a)) 40))
      have X4 := Lib.hid (heap_alloc_new w4 (Obj.cells (toldArr (execTold p.c (p.now + a.wait) a)) 40))
      have Q4 := Lib.hid (s4.sep (Nat.le_refl _))
      have V4 := Lib.hid ((S2.out.go s4 k4 m4).bel.size)
      have U4 := Lib.hid (show u11.ownBlock ≠ some w4.heap.size from fun h => absurd ((S2.out.go s4 k4 m4).ot.lt _ h).2 (Nat.lt_irrefl _))
      clear s4 k4 m4 a0 zlt A2 S2
      unfold toldArr at S4 X4 ⊢
      go_upto_region 9 with fail
      obtain ⟨xb, hxb⟩ : ∃ k, k = w4.heap.size := ⟨_, rfl⟩
      rw [← hxb] at X4 Q4 V4 U4
      rw [← hxb]
      clear hxb
      obtain ⟨t, ht⟩ : ∃ t, t = execTold p.c (p.now + a.wait) a := ⟨_, rfl⟩
      rw [← ht] at X4 S4 ⊢
      have TT := Lib.hid ht
      clear ht
      generalize (w4.alloc (Obj.cells #[Value.bool t.ran, Value.int IntKind.i64 t.val, Value.int IntKind.i64 t.err, Value.bool t.pan, Value.int IntKind.u32 t.cnt.r, Value.int IntKind.u32 t.cnt.s, Value.int IntKind.u32 t.cnt.f, Value.int IntKind.u32 t.cnt.x, Value.int IntKind.u32 t.cnt.g, Value.int IntKind.u32 t.cnt.h] 40)) = W5 at *
      go_wp2_with fail
      refine (cbCounts_any L r (execC r p.c (p.now + a.wait) a) W5 S4.out.sys.cb).mono ?_
      rintro e w6 ⟨rfl, hb6⟩
      have S6 := Lib.hid (S4.out.below hb6)
      obtain ⟨_, _, _, HX6⟩ := kept hb6 X4.out
      have X6 := Lib.hid HX6
      clear hb6 HX6 S4 X4
      go_wp2_with fail
      refine (counts_any _ _).mono ?_
      rintro e w7 ⟨rfl, hb7⟩
      have S7 := Lib.hid (S6.out.below hb7)
      obtain ⟨x7, f7, zx7, HX7⟩ := kept hb7 X6.out
      have X7 := Lib.hid HX7
      clear hb7 HX7 S6 X6
      go_upto_region 10 with fail
      have m8 : Mod [xb] w7 ((((((w7.setCell ⟨xb, 4, none⟩ (Value.int IntKind.u32 (execC r p.c (p.now + a.wait) a).rc.tot.r)).setCell ⟨xb, 5, none⟩ (Value.int IntKind.u32 (execC r p.c (p.now + a.wait) a).rc.tot.s)).setCell ⟨xb, 6, none⟩ (Value.int IntKind.u32 (execC r p.c (p.now + a.wait) a).rc.tot.f)).setCell ⟨xb, 7, none⟩ (Value.int IntKind.u32 (execC r p.c (p.now + a.wait) a).rc.tot.x)).setCell ⟨xb, 8, none⟩ (Value.int IntKind.u32 (execC r p.c (p.now + a.wait) a).rc.tot.g)).setCell ⟨xb, 9, none⟩ (Value.int IntKind.u32 (execC r p.c (p.now + a.wait) a).rc.tot.h)) := ((((((Mod.refl [xb] w7).setCell _ _ (by simp)).setCell _ _ (by simp)).setCell _ _ (by simp)).setCell _ _ (by simp)).setCell _ _ (by simp)).setCell _ _ (by simp)
      have S8 := Lib.hid (S7.out.set X7.out Q4.out U4.out V4.out m8)
      have HX8 : ((((((w7.setCell ⟨xb, 4, none⟩ (Value.int IntKind.u32 (execC r p.c (p.now + a.wait) a).rc.tot.r)).setCell ⟨xb, 5, none⟩ (Value.int IntKind.u32 (execC r p.c (p.now + a.wait) a).rc.tot.s)).setCell ⟨xb, 6, none⟩ (Value.int IntKind.u32 (execC r p.c (p.now + a.wait) a).rc.tot.f)).setCell ⟨xb, 7, none⟩ (Value.int IntKind.u32 (execC r p.c (p.now + a.wait) a).rc.tot.x)).setCell ⟨xb, 8, none⟩ (Value.int IntKind.u32 (execC r p.c (p.now + a.wait) a).rc.tot.g)).setCell ⟨xb, 9, none⟩ (Value.int IntKind.u32 (execC r p.c (p.now + a.wait) a).rc.tot.h)).heap[xb]? = some (Obj.cells #[Value.bool t.ran, Value.int IntKind.i64 t.val, Value.int IntKind.i64 t.err, Value.bool t.pan, Value.int IntKind.u32 (execC r p.c (p.now + a.wait) a).rc.tot.r, Value.int IntKind.u32 (execC r p.c (p.now + a.wait) a).rc.tot.s, Value.int IntKind.u32 (execC r p.c (p.now + a.wait) a).rc.tot.f, Value.int IntKind.u32 (execC r p.c (p.now + a.wait) a).rc.tot.x, Value.int IntKind.u32 (execC r p.c (p.now + a.wait) a).rc.tot.g, Value.int IntKind.u32 (execC r p.c (p.now + a.wait) a).rc.tot.h] 40 (0, 0)) := (heap_set_same (heap_set_same (heap_set_same (heap_set_same (heap_set_same (heap_set_same X7.out)))))).trans (by simp)
      have x9 := blk_cell HX8
      have zx9 := size_of_heap HX8
      clear m8 HX8 S7 X7 x7 f7 zx7
      generalize ((((((w7.setCell ⟨xb, 4, none⟩ (Value.int IntKind.u32 (execC r p.c (p.now + a.wait) a).rc.tot.r)).setCell ⟨xb, 5, none⟩ (Value.int IntKind.u32 (execC r p.c (p.now + a.wait) a).rc.tot.s)).setCell ⟨xb, 6, none⟩ (Value.int IntKind.u32 (execC r p.c (p.now + a.wait) a).rc.tot.f)).setCell ⟨xb, 7, none⟩ (Value.int IntKind.u32 (execC r p.c (p.now + a.wait) a).rc.tot.x)).setCell ⟨xb, 8, none⟩ (Value.int IntKind.u32 (execC r p.c (p.now + a.wait) a).rc.tot.g)).setCell ⟨xb, 9, none⟩ (Value.int IntKind.u32 (execC r p.c (p.now + a.wait) a).rc.tot.h)) = W9 at *
      obtain ⟨i0, hi0, hz0, hz1, hz2⟩ := info_parts infoTold
      have hob : p.out.length ≤ 100000 := by have := B3.out; omega
      have hbase := S8.out.bel.size
      go_wp2_with (refine wpList_append_lies _ (by rfl) _ _ _ (by rfl) w.heap.size 40 i0 (.agg #[.bool false, .int .i64 0, .int .i64 0, .bool false, .int .u32 0, .int .u32 0, .int .u32 0, .int .u32 0, .int .u32 0, .int .u32 0]) 10 56 Tryz.underlying29 hi0 hz0 hz1 hz2 rfl (by omega) u11 p.out.length (toldFlat p.out) (by rfl) (S8.out.ot.alloc _) ⟨W9.heap.size, 0, none⟩ 1 1 (toldRow { t with cnt := (execC r p.c (p.now + a.wait) a).rc.tot }) (by rfl) rfl (World.news_of_block (heap_alloc_new W9 _)) (by intro u hu; simp [toldRow] at hu; rcases hu with rfl | rfl | rfl | rfl | rfl | rfl | rfl | rfl | rfl | rfl <;> rfl) (by omega) (by unfold maxLen; omega) (by omega) (by simp; omega) (W9.heap.size + 1) (by simp) ?_; intro g cp wA hown hgrow hat hlt)
      go_roundg (l.length - (i + 1))
      case measure => omega
      case rel =>
        have SA := (S8.out.alloc (Obj.cells (toldRow { t with cnt := (execC r p.c (p.now + a.wait) a).rc.tot }).toArray 40)).pushOut hown hgrow (by simpa using hat)
        have hx : (⟨(execC r p.c (p.now + a.wait) a), execNow p.c (p.now + a.wait) a, p.chs ++ execChs r p.c (p.now + a.wait) a, p.out ++ [{ t with cnt := (execC r p.c (p.now + a.wait) a).rc.tot }]⟩ : PC) = p.step r a := by rw [TT.out]; rfl
        have SA' : CSt w L r wA (p.step r a) cr4 (.slice (some ⟨g, 0, none⟩) (p.out.length + 1) cp) := by rw [← hx]; exact SA
        have q1 := execChs_len r p.c (p.now + a.wait) a
        refine ⟨i + 1, p.step r a, cr4, rfl, hin, by first | rfl | simp, Lib.hid ⟨SA', HFN.out, ?_, ?_, ?_⟩⟩
        · rw [← HR.out]; exact (PC.run_drop r p LA.out).symm
        · show (p.chs ++ execChs r p.c (p.now + a.wait) a).length ≤ 3 * (i + 1)
          rw [List.length_append]; omega
        · show (p.out ++ [_]).length = i + 1
          rw [List.length_append, B3.out]; rfl
    · have hiz : ¬ ((i : Int) < (l.length : Int)) := by omega
      have hieq : i = l.length := by omega
      obtain ⟨hS, hFn, hR, b1, b3⟩ := hh.out
      have hpp : p = PC.run r (PC.fresh c0 start) l := by rw [← hR, hieq, List.drop_length]; rfl
      have HP := Lib.hid hpp
      obtain ⟨v, hv, ho, hrw⟩ := hS.sys.bed.bd
      have d1 := blk_cell hv 1
      simp at d1
      have HV := Lib.hid hv
      have HS' := Lib.hid hS
      have HOW := Lib.hid ho
      have HRW := Lib.hid hrw
      have HB1 := Lib.hid (show p.chs.length ≤ 1000000 by omega)
      have HCI := Lib.hid (show p.c.IdleR p.now from by rw [hpp]; exact HID.out)
      have zb := size_of_heap hv
      clear hpp hieq hS hFn hR b1 b3 hv ho hrw hh HF HA
      go_upto_region 12 with fail
      go_region_held3 (fun w' => w'.cell? ⟨L.bd, 1, none⟩ = some v) (first | (go_keep; done) | ((try dsimp only); exact p1))
        ((first | (go_at_call 27; refine (HCI.out L cr r p.chs wr.drew HS'.out.drew.sys HB1.out).mono ?_; rintro e w2 ⟨rfl, hb2⟩; have p1 := blk_cell ((hb2.block L.bd zb).trans HV.out) 1; simp at p1)))
      go_wp2_with fail
      go_ret3
      have BB : Below wr.heap.size wr w2 := ((Below.refl _ _).drew).trans hb2
      refine ⟨u11, v, by rw [← HP.out]; rfl, ?_, ?_, HS'.out.bel.trans (BB.mono HS'.out.bel.size)⟩
      · rw [← HP.out]
        exact owns_keep HS'.out.ot fun g hg => BB.block g (HS'.out.ot.lt g hg).2
      · rw [← HP.out]
        refine owns_base (owns_keep HOW.out fun g hg => BB.block g (HOW.out.lt g hg).2) ?_
        intro g hg
        rcases HRW.out with e | e
        · rw [e] at hg; cases hg
        · rw [e] at hg; simp at hg; subst hg; exact HS'.out.old _ (by simp)

end Go.Proofs.YtcjklacfoldaoaaGreat
