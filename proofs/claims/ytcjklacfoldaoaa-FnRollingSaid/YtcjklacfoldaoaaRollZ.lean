import Derived.Laws.Runes
import Derived.Laws.OwnMore
import Derived.BigQuiet
import Derived.Test.YtcjklacfoldaoaaPlayD
import Derived.Test.YtcjklacfoldaoaaRollY
import Derived.Test.YtcjklacfoldaoaaRcClear
import Derived.Test.YtcjklacfoldaoaaAfter
import Derived.Test.YtcjklacfoldaoaaNewR
import Derived.Test.YtcjklacfoldaoaaSpecB
import Derived.Test.YtcjklacfoldaoaaSameZ
import Derived.Test.YtcjklacfoldaoaaOpenC
import Derived.Test.YtcjklacfoldaoaaWorks
/- PlayCalls for a breaker of which NewCircuitBreaker's contract is at hand. Conditions: the calls are within the bounds, none panics, the window's law is at hand. -/
namespace Go.Proofs.Ytcjklacfoldaoaa
open Go.RowKit
attribute [local go_sem ↓] Go.wp_at_zero Go.wp_at_succ

/-- What NewCircuitBreaker makes of the settings of rules. -/
def NewSaid (r : Rules) (c0 : CB) : Prop := ∀ (bd bp rb rs cr : Nat) (now : Int) (chs : List (Int × Int)) (w : World), BedAt w (newL w.heap.size bd bp rb rs) cr now chs →
    w.heap[rb]? = some (.cells (rulesArr r) 24 (0, 0)) → w.heap[rs]? = some (.cells (rulesArr r) 24 (0, 0)) → bd ≠ bp → bd ≠ rb → bd ≠ rs →
    cr < w.heap.size → cr ≠ bd → cr ≠ bp → cr ≠ rb → cr ≠ rs → -3000000000000000000 ≤ now → now ≤ 3000000000000000000 →
    Calls Try.prog 46 #[.agg #[Value.func (Fn.func 52) #[] #[Value.pointer (some ⟨bp, 0, none⟩)], Value.string r.name, Value.int IntKind.u32 r.most, Value.int IntKind.i64 r.interval, Value.int IntKind.i64 r.bucket, Value.int IntKind.i64 r.timeout, tripRaw rb r, Value.func (Fn.func 55) #[] #[Value.pointer (some ⟨bp, 0, none⟩)], goodRaw rs r, outRaw rs r]] w fun e w' => e = .returned (.pointer (some ⟨w.heap.size + 1, 0, none⟩)) ∧ Sys w' (newL w.heap.size bd bp rb rs) cr r (c0.newGen now) now chs ∧ Below w.heap.size w w'

/-- What State tells where nothing is due. -/
def CB.IdleR (c : CB) (now : Int) : Prop := ∀ (L : Loc) (cr : Nat) (r : Rules) (chs : List (Int × Int)) (w : World), Sys w L cr r c now chs → chs.length ≤ 1000000 →
    Calls Try.prog 51 #[.pointer (some ⟨L.cb, 0, none⟩)] w fun e w' => e = .returned (.int .i64 c.state) ∧ Below w.heap.size w w'
theorem CB.Idle.r {c : CB} {now : Int} (h : c.Idle now) : c.IdleR now := fun L cr r chs w hs hl => cbState_idle L cr r c now chs w hs hl h
/-- What a call asks of the breaker ahead of it. -/
structure CB.Ready (c : CB) (now : Int) (k : Call) : Prop where
  w1 : Win c now
  pan : k.pan = false
  w2 : (c.look now).beforeCode = 0 → Win (c.look now).before1 (now + k.long)
  hit : (c.look now).beforeCode = 0 → ((c.look now).before1.look (now + k.long)).gen = (c.look now).gen → Hit ((c.look now).before1.look (now + k.long)) (c.look now).rc.age
namespace PC
def fresh (c0 : CB) (now : Int) : PC := ⟨c0.newGen now, now, [], []⟩
def FineR (r : Rules) : PC → List Call → Prop
  | _, [] => True
  | p, k :: l => p.Can k ∧ p.c.Ready (p.now + k.wait) k ∧ FineR r (p.step r k) l
theorem fineR_drop (r : Rules) (p : PC) {l : List Call} {i : Nat} {a : Call} (h : l[i]? = some a) (hf : FineR r p (l.drop i)) : p.Can a ∧ p.c.Ready (p.now + a.wait) a ∧ FineR r (p.step r a) (l.drop (i + 1)) := by
  have hi : i < l.length := by
    rcases Nat.lt_or_ge i l.length with h' | h'
    · exact h'
    · rw [List.getElem?_eq_none h'] at h; cases h
  rw [List.drop_eq_getElem_cons hi] at hf
  rw [List.getElem?_eq_getElem hi] at h
  simp at h
  rw [h] at hf
  exact hf
end PC
theorem executeR_any (L : Loc) (cr : Nat) (r : Rules) (c : CB) (now : Int) (chs : List (Int × Int)) (k : Call) (w : World) (h : Sys w L cr r c now chs) (hlen : chs.length ≤ 999990) (hr : c.Ready now k)
    (l0 : 0 ≤ k.long) (n0 : -3000000000000000000 ≤ now) (n1 : now + k.long ≤ 3000000000000000000) (e0 : 0 ≤ k.err) (e1 : k.err ≤ 6) :
    Calls Try.prog 49 #[.pointer (some ⟨L.cb, 0, none⟩), .pointer (some ⟨L.bd, 0, none⟩), .agg (callArr k)] w fun e w' =>
      e = .returned (.agg (toldArr (execTold c now k))) ∧ Evo L r w cr w' (execC r c now k) (execNow c now k) (chs ++ execChs r c now k) := by
  unfold execTold execC execNow execChs execErr
  have hk := hr.pan
  by_cases hc : (c.look now).beforeCode = 0
  · simp only [if_pos hc]
    rw [← List.append_assoc]
    simp only [hk, Bool.false_eq_true, if_false]
    exact execute_ok L cr r c now chs k w h hlen hr.w1 hc hk l0 n0 n1 e0 e1 (hr.w2 hc) (hr.hit hc)
  · simp only [if_neg hc]
    rw [List.append_nil]
    have := beforeCode_or _ hc
    exact execute_no L cr r c now chs k w h hlen hr.w1 this

set_option maxRecDepth 100000 in
set_option maxHeartbeats 4000000 in
theorem playR_any (r : Rules) (start : Int) (va : Value) (l : List Call) (w : World) (c0 : CB) (hnw : NewSaid r c0) (t0 : -3000000000000000000 ≤ start) (t1 : start ≤ 3000000000000000000)
    (ha : CallsAt w va l) (hl : l.length ≤ 100000) (hf : PC.FineR r (PC.fresh c0 start) l) (hid : (PC.run r (PC.fresh c0 start) l).c.IdleR (PC.run r (PC.fresh c0 start) l).now) :
    Calls Try.prog 26 #[.agg #[.string r.name, .int .u32 r.most, .int .i64 r.interval, .int .i64 r.bucket, .int .i64 r.timeout, .int .i64 r.trip, .int .u32 r.bound, .bool r.hasGood, .int .u8 r.good, .bool r.hasOut, .int .u8 r.out], .int .i64 start, va] w fun e w' =>
      ∃ vo vc, e = .returned (.tuple #[vo, vc, .int .i64 (PC.run r (PC.fresh c0 start) l).c.state]) ∧ w'.ownsRow w.heap.size 63 10 vo (PC.run r (PC.fresh c0 start) l).out.length (toldFlat (PC.run r (PC.fresh c0 start) l).out) ∧
        w'.ownsRow w.heap.size 34 2 vc (PC.run r (PC.fresh c0 start) l).chs.length (chFlat (PC.run r (PC.fresh c0 start) l).chs) ∧ Below w.heap.size w w' := by
  obtain ⟨pa, cap, rfl, hacts⟩ := ha
  have HA := Lib.hid hacts
  have HF := Lib.hid hf
  have HID := Lib.hid hid
  clear hacts hf hid
  go_enter Try.func26, Try.ntmps26
  go_wp2_with fail
  have hz2 : ((w.alloc (Obj.cells (rulesArr r) 24)).alloc (Obj.cells #[Value.int IntKind.i64 start, Value.slice none 0 0] 74)).heap.size = w.heap.size + 2 := by simp
  have hbd2 : ((w.alloc (Obj.cells (rulesArr r) 24)).alloc (Obj.cells #[Value.int IntKind.i64 start, Value.slice none 0 0] 74)).heap[w.heap.size + 1]? = some (Obj.cells #[Value.int IntKind.i64 start, Value.slice none 0 0] 74 (0, 0)) := heap_alloc_at (by simp)
  refine (settings_any (w.heap.size + 1) r ((w.alloc (Obj.cells (rulesArr r) 24)).alloc (Obj.cells #[Value.int IntKind.i64 start, Value.slice none 0 0] 74))).mono ?_
  rintro e w1 ⟨bp, rs, rb, rfl, hp, hrs, hrb, ebp, ers, qrb, hB⟩
  rw [hz2] at ebp ers qrb hB
  have hbd1 := (hB.block (w.heap.size + 1) (by omega)).trans hbd2
  have hB0 : Below w.heap.size w w1 := (((Below.refl _ _).alloc (Nat.le_refl _) _).alloc (by simp) _).trans (hB.mono (by omega))
  have hz1 := hB.size
  rw [hz2] at hz1
  have hbed : BedAt w1 (newL w1.heap.size (w.heap.size + 1) bp rb rs) w.heap.size start [] := ⟨hp, _, hbd1, World.ownsRow_nil _ _ _ _, .inl rfl⟩
  have hnew := hnw (w.heap.size + 1) bp rb rs w.heap.size start [] w1 hbed hrb hrs (by omega) (by omega) (by omega) (by omega) (by omega) (by omega) (by omega) (by omega) t0 t1
  have HN := Lib.hid hnew
  have HB0 := Lib.hid hB0
  have zz1 : w.heap.size + 2 ≤ w1.heap.size := hz1
  clear hp hrs hrb hB hbd1 hB0 hz1 hbed hnew hbd2 hz2 ebp ers qrb
  go_wp2_with fail
  refine HN.out.mono ?_
  rintro e w2 ⟨rfl, hS, hB2⟩
  obtain ⟨L, hL⟩ : ∃ L, L = newL w1.heap.size (w.heap.size + 1) bp rb rs := ⟨_, rfl⟩
  rw [← hL] at hS
  have hLbd : w.heap.size + 1 = L.bd := by rw [hL]
  have hLcb : w1.heap.size + 1 = L.cb := by rw [hL]
  have hold : ∀ i ∈ [L.cb, L.rc, L.bk, L.bd, w.heap.size], w.heap.size ≤ i := by
    rw [hL]; simp; omega
  have S2 := Lib.hid (show CSt w L r w2 (PC.fresh c0 start) w.heap.size (.slice none 0 0) from
    ⟨hS, World.ownsRow_nil _ _ _ _, by simp [Value.ownBlock], hold, HB0.out.trans (hB2.mono (by omega))⟩)
  rw [hLbd, hLcb]
  clear hS hB2 hL hold HN HB0 hLbd hLcb
  go_wp2_with fail
  go_loopg [11, 24] l.length (fun g s11 s24 wx => ∃ (i : Nat) (p : PC) (cr : Nat), g = l.length - i ∧ i ≤ l.length ∧ s24 = .int .i64 (i : Int) ∧ Hid (CSt w L r wx p cr s11 ∧ PC.FineR r p (l.drop i) ∧ PC.run r p (l.drop i) = PC.run r (PC.fresh c0 start) l ∧ p.chs.length ≤ 3 * i ∧ p.out.length = i))
  case atStart =>
    exact ⟨0, PC.fresh c0 start, w.heap.size, rfl, Nat.zero_le _, rfl, Lib.hid ⟨S2.out, HF.out, rfl, by simp [PC.fresh], by simp [PC.fresh]⟩⟩
  case round =>
    obtain ⟨i, p, cr, rfl, hi, rfl, hh⟩ := hrel
    by_cases hin : i < l.length
    · have hiz : (i : Int) < (l.length : Int) := by omega
      obtain ⟨a, hla⟩ : ∃ a, l[i]? = some a := ⟨_, List.getElem?_eq_getElem hin⟩
      obtain ⟨ab, ao, rfl, hblk, hcell⟩ := HA.out i a hla
      have hbc := fun j u hj => (hh.out.1.bel.cell (p := ⟨ab, ao + i * 5 + j, none⟩) hblk).trans (hcell j u hj)
      have k0 : wr.cell? ⟨ab, ao + i * 5, none⟩ = some (.int .i64 a.wait) := hbc 0 _ rfl
      have k1 := hbc 1 _ rfl
      have k2 := hbc 2 _ rfl
      have k3 := hbc 3 _ rfl
      have k4 := hbc 4 _ rfl
      clear hbc hcell
      have LA := Lib.hid hla
      clear hla
      obtain ⟨hS, hFn, hR, b1, b3⟩ := hh.out
      obtain ⟨can, rdy, hFn'⟩ := PC.fineR_drop r p LA.out hFn
      have RDY := Lib.hid rdy
      have HFN := Lib.hid hFn'
      have HR := Lib.hid hR
      have B3 := Lib.hid b3
      have CAN := Lib.hid can
      have n0 := can.now0
      have n1 := can.now1
      have n2 := can.wait0
      have n3 := can.long0
      have S1 := Lib.hid (hS.alloc (Obj.cells (callArr a) 57))
      have A1 := Lib.hid (heap_alloc_new wr (Obj.cells (callArr a) 57))
      have P1 := Lib.hid (hS.sys.sep (Nat.le_refl _))
      unfold callArr at S1 A1
      go_upto_region 7 with fail
      obtain ⟨ba, hba⟩ : ∃ k, k = wr.heap.size := ⟨_, rfl⟩
      rw [← hba] at A1 P1
      have zlt : ba < (wr.alloc (Obj.cells #[Value.int IntKind.i64 a.wait, Value.int IntKind.i64 a.long, Value.int IntKind.i64 a.val, Value.int IntKind.i64 a.err, Value.bool a.pan] 57)).heap.size := by rw [hba]; simp
      rw [← hba]
      clear hba hFn hFn' hR b3 can rdy hS hh k0 k1 k2 k3 k4 hblk
      generalize (wr.alloc (Obj.cells #[Value.int IntKind.i64 a.wait, Value.int IntKind.i64 a.long, Value.int IntKind.i64 a.val, Value.int IntKind.i64 a.err, Value.bool a.pan] 57)) = W1 at *
      obtain ⟨bv, hbv, _, _⟩ := S1.out.sys.bed.bd
      have d0 := blk_cell hbv 0
      have d1 := blk_free hbv 0
      simp at d0
      have a0 := blk_cell A1.out
      have y0 := size_of_heap hbv
      clear hbv
      go_region
      obtain ⟨cr2, s2, k2, m2⟩ := Evo.tick S1.out.sys (now' := p.now + a.wait) (by omega) (by omega)
      have S2 := Lib.hid ((S1.out.go s2 k2 m2).drew)
      have A2 := Lib.hid (heap_drew (m2.heap A1.out P1.out))
      clear s2 k2 m2 d0 d1 a0 y0 zlt S1 A1 P1
      generalize (W1.setCell ⟨L.bd, 0, none⟩ (Value.int IntKind.i64 (p.now + a.wait))).drew = W2 at *
      have a0 := blk_cell A2.out
      have zlt := size_of_heap A2.out
      go_wp2_with fail
      refine (executeR_any L cr2 r p.c (p.now + a.wait) p.chs a W2 S2.out.sys (by omega) RDY.out n3 (by omega) (by omega) CAN.out.err0 CAN.out.err1).mono ?_
      rintro e w4 ⟨rfl, cr4, s4, k4, m4⟩
      have S4 := Lib.hid ((S2.out.go s4 k4 m4).alloc (Obj.cells (toldArr (execTold p.c (p.now + a.wait) a)) 63))
      have X4 := Lib.hid (heap_alloc_new w4 (Obj.cells (toldArr (execTold p.c (p.now + a.wait) a)) 63))
      have Q4 := Lib.hid (s4.sep (Nat.le_refl _))
      have V4 := Lib.hid ((S2.out.go s4 k4 m4).bel.size)
      have U4 := Lib.hid (show u11.ownBlock ≠ some w4.heap.size from fun h => absurd ((S2.out.go s4 k4 m4).ot.lt _ h).2 (Nat.lt_irrefl _))
      clear s4 k4 m4 a0 zlt A2 S2
      unfold toldArr at S4 X4 ⊢
      go_upto_region 9 with fail
      obtain ⟨xb, hxb⟩ : ∃ k, k = w4.heap.size := ⟨_, rfl⟩
      rw [← hxb] at X4 Q4 V4 U4
      rw [← hxb]
      clear hxb
      obtain ⟨t, ht⟩ : ∃ t, t = execTold p.c (p.now + a.wait) a := ⟨_, rfl⟩
      rw [← ht] at X4 S4 ⊢
      have TT := Lib.hid ht
      clear ht
      generalize (w4.alloc (Obj.cells #[Value.bool t.ran, Value.int IntKind.i64 t.val, Value.int IntKind.i64 t.err, Value.bool t.pan, Value.int IntKind.u32 t.cnt.r, Value.int IntKind.u32 t.cnt.s, Value.int IntKind.u32 t.cnt.f, Value.int IntKind.u32 t.cnt.x, Value.int IntKind.u32 t.cnt.g, Value.int IntKind.u32 t.cnt.h] 63)) = W5 at *
      go_wp2_with fail
      refine (cbCounts_any L r (execC r p.c (p.now + a.wait) a) W5 S4.out.sys.cb).mono ?_
      rintro e w6 ⟨rfl, hb6⟩
      have S6 := Lib.hid (S4.out.below hb6)
      obtain ⟨_, _, _, HX6⟩ := kept hb6 X4.out
      have X6 := Lib.hid HX6
      clear hb6 HX6 S4 X4
      go_wp2_with fail
      refine (counts_any _ _).mono ?_
      rintro e w7 ⟨rfl, hb7⟩
      have S7 := Lib.hid (S6.out.below hb7)
      obtain ⟨x7, f7, zx7, HX7⟩ := kept hb7 X6.out
      have X7 := Lib.hid HX7
      clear hb7 HX7 S6 X6
      go_upto_region 10 with fail
      have m8 : Mod [xb] w7 ((((((w7.setCell ⟨xb, 4, none⟩ (Value.int IntKind.u32 (execC r p.c (p.now + a.wait) a).rc.tot.r)).setCell ⟨xb, 5, none⟩ (Value.int IntKind.u32 (execC r p.c (p.now + a.wait) a).rc.tot.s)).setCell ⟨xb, 6, none⟩ (Value.int IntKind.u32 (execC r p.c (p.now + a.wait) a).rc.tot.f)).setCell ⟨xb, 7, none⟩ (Value.int IntKind.u32 (execC r p.c (p.now + a.wait) a).rc.tot.x)).setCell ⟨xb, 8, none⟩ (Value.int IntKind.u32 (execC r p.c (p.now + a.wait) a).rc.tot.g)).setCell ⟨xb, 9, none⟩ (Value.int IntKind.u32 (execC r p.c (p.now + a.wait) a).rc.tot.h)) := ((((((Mod.refl [xb] w7).setCell _ _ (by simp)).setCell _ _ (by simp)).setCell _ _ (by simp)).setCell _ _ (by simp)).setCell _ _ (by simp)).setCell _ _ (by simp)
      have S8 := Lib.hid (S7.out.set X7.out Q4.out U4.out V4.out m8)
      have HX8 : ((((((w7.setCell ⟨xb, 4, none⟩ (Value.int IntKind.u32 (execC r p.c (p.now + a.wait) a).rc.tot.r)).setCell ⟨xb, 5, none⟩ (Value.int IntKind.u32 (execC r p.c (p.now + a.wait) a).rc.tot.s)).setCell ⟨xb, 6, none⟩ (Value.int IntKind.u32 (execC r p.c (p.now + a.wait) a).rc.tot.f)).setCell ⟨xb, 7, none⟩ (Value.int IntKind.u32 (execC r p.c (p.now + a.wait) a).rc.tot.x)).setCell ⟨xb, 8, none⟩ (Value.int IntKind.u32 (execC r p.c (p.now + a.wait) a).rc.tot.g)).setCell ⟨xb, 9, none⟩ (Value.int IntKind.u32 (execC r p.c (p.now + a.wait) a).rc.tot.h)).heap[xb]? = some (Obj.cells #[Value.bool t.ran, Value.int IntKind.i64 t.val, Value.int IntKind.i64 t.err, Value.bool t.pan, Value.int IntKind.u32 (execC r p.c (p.now + a.wait) a).rc.tot.r, Value.int IntKind.u32 (execC r p.c (p.now + a.wait) a).rc.tot.s, Value.int IntKind.u32 (execC r p.c (p.now + a.wait) a).rc.tot.f, Value.int IntKind.u32 (execC r p.c (p.now + a.wait) a).rc.tot.x, Value.int IntKind.u32 (execC r p.c (p.now + a.wait) a).rc.tot.g, Value.int IntKind.u32 (execC r p.c (p.now + a.wait) a).rc.tot.h] 63 (0, 0)) := (heap_set_same (heap_set_same (heap_set_same (heap_set_same (heap_set_same (heap_set_same X7.out)))))).trans (by simp)
      have x9 := blk_cell HX8
      have zx9 := size_of_heap HX8
      clear m8 HX8 S7 X7 x7 f7 zx7
      generalize ((((((w7.setCell ⟨xb, 4, none⟩ (Value.int IntKind.u32 (execC r p.c (p.now + a.wait) a).rc.tot.r)).setCell ⟨xb, 5, none⟩ (Value.int IntKind.u32 (execC r p.c (p.now + a.wait) a).rc.tot.s)).setCell ⟨xb, 6, none⟩ (Value.int IntKind.u32 (execC r p.c (p.now + a.wait) a).rc.tot.f)).setCell ⟨xb, 7, none⟩ (Value.int IntKind.u32 (execC r p.c (p.now + a.wait) a).rc.tot.x)).setCell ⟨xb, 8, none⟩ (Value.int IntKind.u32 (execC r p.c (p.now + a.wait) a).rc.tot.g)).setCell ⟨xb, 9, none⟩ (Value.int IntKind.u32 (execC r p.c (p.now + a.wait) a).rc.tot.h)) = W9 at *
      obtain ⟨i0, hi0, hz0, hz1, hz2⟩ := info_parts infoTold
      have hob : p.out.length ≤ 100000 := by have := B3.out; omega
      have hbase := S8.out.bel.size
      go_wp2_with (refine wpList_append_lies _ (by rfl) _ _ _ (by rfl) w.heap.size 63 i0 (.agg #[.bool false, .int .i64 0, .int .i64 0, .bool false, .int .u32 0, .int .u32 0, .int .u32 0, .int .u32 0, .int .u32 0, .int .u32 0]) 10 56 Try.underlying59 hi0 hz0 hz1 hz2 rfl (by omega) u11 p.out.length (toldFlat p.out) (by rfl) (S8.out.ot.alloc _) ⟨W9.heap.size, 0, none⟩ 1 1 (toldRow { t with cnt := (execC r p.c (p.now + a.wait) a).rc.tot }) (by rfl) rfl (World.news_of_block (heap_alloc_new W9 _)) (by intro u hu; simp [toldRow] at hu; rcases hu with rfl | rfl | rfl | rfl | rfl | rfl | rfl | rfl | rfl | rfl <;> rfl) (by omega) (by unfold maxLen; omega) (by omega) (by simp; omega) (W9.heap.size + 1) (by simp) ?_; intro g cp wA hown hgrow hat hlt)
      go_roundg (l.length - (i + 1))
      case measure => omega
      case rel =>
        have SA := (S8.out.alloc (Obj.cells (toldRow { t with cnt := (execC r p.c (p.now + a.wait) a).rc.tot }).toArray 63)).pushOut hown hgrow (by simpa using hat)
        have hx : (⟨(execC r p.c (p.now + a.wait) a), execNow p.c (p.now + a.wait) a, p.chs ++ execChs r p.c (p.now + a.wait) a, p.out ++ [{ t with cnt := (execC r p.c (p.now + a.wait) a).rc.tot }]⟩ : PC) = p.step r a := by rw [TT.out]; rfl
        have SA' : CSt w L r wA (p.step r a) cr4 (.slice (some ⟨g, 0, none⟩) (p.out.length + 1) cp) := by rw [← hx]; exact SA
        have q1 := execChs_len r p.c (p.now + a.wait) a
        refine ⟨i + 1, p.step r a, cr4, rfl, hin, by first | rfl | simp, Lib.hid ⟨SA', HFN.out, ?_, ?_, ?_⟩⟩
        · rw [← HR.out]; exact (PC.run_drop r p LA.out).symm
        · show (p.chs ++ execChs r p.c (p.now + a.wait) a).length ≤ 3 * (i + 1)
          rw [List.length_append]; omega
        · show (p.out ++ [_]).length = i + 1
          rw [List.length_append, B3.out]; rfl
    · have hiz : ¬ ((i : Int) < (l.length : Int)) := by omega
      have hieq : i = l.length := by omega
      obtain ⟨hS, hFn, hR, b1, b3⟩ := hh.out
      have hpp : p = PC.run r (PC.fresh c0 start) l := by rw [← hR, hieq, List.drop_length]; rfl
      have HP := Lib.hid hpp
      obtain ⟨v, hv, ho, hrw⟩ := hS.sys.bed.bd
      have d1 := blk_cell hv 1
      simp at d1
      have HV := Lib.hid hv
      have HS' := Lib.hid hS
      have HOW := Lib.hid ho
      have HRW := Lib.hid hrw
      have HB1 := Lib.hid (show p.chs.length ≤ 1000000 by omega)
      have HCI := Lib.hid (show p.c.IdleR p.now from by rw [hpp]; exact HID.out)
      have zb := size_of_heap hv
      clear hpp hieq hS hFn hR b1 b3 hv ho hrw hh HF HA
      go_upto_region 12 with fail
      go_region_held3 (fun w' => w'.cell? ⟨L.bd, 1, none⟩ = some v) (first | (go_keep; done) | ((try dsimp only); exact p1))
        ((first | (go_at_call 51; refine (HCI.out L cr r p.chs wr.drew HS'.out.drew.sys HB1.out).mono ?_; rintro e w2 ⟨rfl, hb2⟩; have p1 := blk_cell ((hb2.block L.bd zb).trans HV.out) 1; simp at p1)))
      go_wp2_with fail
      go_ret3
      have BB : Below wr.heap.size wr w2 := ((Below.refl _ _).drew).trans hb2
      refine ⟨u11, v, by rw [← HP.out]; rfl, ?_, ?_, HS'.out.bel.trans (BB.mono HS'.out.bel.size)⟩
      · rw [← HP.out]
        exact owns_keep HS'.out.ot fun g hg => BB.block g (HS'.out.ot.lt g hg).2
      · rw [← HP.out]
        refine owns_base (owns_keep HOW.out fun g hg => BB.block g (HOW.out.lt g hg).2) ?_
        intro g hg
        rcases HRW.out with e | e
        · rw [e] at hg; cases hg
        · rw [e] at hg; simp at hg; subst hg; exact HS'.out.old _ (by simp)

end Go.Proofs.Ytcjklacfoldaoaa

/- Contract of brInstant. Condition: the calls can be read. -/
namespace Go.Proofs.Ytcjklacfoldaoaa
open Go.RowKit
attribute [local go_sem ↓] Go.wp_at_zero Go.wp_at_succ

def instOk (k : Call) : Bool := decide (0 ≤ k.wait) && (decide (k.wait ≤ 1000000000000000) && (decide (k.long = 0) && (decide (0 ≤ k.err) && (decide (k.err ≤ 6) && !k.pan))))
def inst (l : List Call) : Bool := l.all instOk && decide (l.length ≤ 100)
theorem instOk_parts {k : Call} (h : instOk k = true) : 0 ≤ k.wait ∧ k.wait ≤ 1000000000000000 ∧ k.long = 0 ∧ 0 ≤ k.err ∧ k.err ≤ 6 ∧ k.pan = false := by
  unfold instOk at h; simpa using h
theorem instNo_parts {k : Call} (h : instOk k = false) : k.wait < 0 ∨ (0 ≤ k.wait ∧ 1000000000000000 < k.wait) ∨ (0 ≤ k.wait ∧ k.wait ≤ 1000000000000000 ∧ k.long ≠ 0) ∨ (0 ≤ k.wait ∧ k.wait ≤ 1000000000000000 ∧ k.long = 0 ∧ k.err < 0) ∨
    (0 ≤ k.wait ∧ k.wait ≤ 1000000000000000 ∧ k.long = 0 ∧ 0 ≤ k.err ∧ 6 < k.err) ∨ (0 ≤ k.wait ∧ k.wait ≤ 1000000000000000 ∧ k.long = 0 ∧ 0 ≤ k.err ∧ k.err ≤ 6 ∧ k.pan = true) := by
  unfold instOk at h
  simp at h
  by_cases h1 : 0 ≤ k.wait
  · by_cases h2 : k.wait ≤ 1000000000000000
    · by_cases h3 : k.long = 0
      · by_cases h4 : 0 ≤ k.err
        · by_cases h5 : k.err ≤ 6
          · exact .inr (.inr (.inr (.inr (.inr ⟨h1, h2, h3, h4, h5, h h1 h2 h3 h4 h5⟩))))
          · exact .inr (.inr (.inr (.inr (.inl ⟨h1, h2, h3, h4, by omega⟩))))
        · exact .inr (.inr (.inr (.inl ⟨h1, h2, h3, by omega⟩)))
      · exact .inr (.inr (.inl ⟨h1, h2, h3⟩))
    · exact .inr (.inl ⟨h1, by omega⟩)
  · exact .inl (by omega)
theorem inst_get {l : List Call} (h : l.all instOk = true) {i : Nat} {a : Call} (hi : l[i]? = some a) : instOk a = true := by
  rw [List.all_eq_true] at h
  exact h a (List.mem_of_getElem? hi)

set_option maxRecDepth 100000 in
set_option maxHeartbeats 4000000 in
theorem inst_any (va : Value) (l : List Call) (w : World) (ha : CallsAt w va l) (hn : l.length ≤ 2147483647) :
    Calls Try.prog 27 #[va] w fun e w' => e = .returned (.bool (inst l)) ∧ Below w.heap.size w w' := by
  obtain ⟨pa, cap, rfl, hacts⟩ := ha
  have HA := Lib.hid hacts
  clear hacts
  go_enter Try.func27, Try.ntmps27
  go_wp2_with fail
  go_loopg [7] l.length (fun g s7 wx => ∃ i : Nat, g = l.length - i ∧ i ≤ l.length ∧ s7 = .int .i64 (i : Int) ∧ Hid (Below w.heap.size w wx ∧ ∀ (j : Nat) (k : Call), j < i → l[j]? = some k → instOk k = true))
  case atStart => exact ⟨0, rfl, Nat.zero_le _, rfl, Lib.hid ⟨Below.refl _ _, fun j k hj => absurd hj (Nat.not_lt_zero _)⟩⟩
  case round =>
    obtain ⟨i, rfl, hi, rfl, hh⟩ := hrel
    obtain ⟨hB, hP⟩ := hh.out
    have HB := Lib.hid hB
    have HP := Lib.hid hP
    clear hh hB hP
    by_cases hin : i < l.length
    · have hiz : (i : Int) < (l.length : Int) := by omega
      obtain ⟨a, hla⟩ : ∃ a, l[i]? = some a := ⟨_, List.getElem?_eq_getElem hin⟩
      obtain ⟨ab, ao, rfl, hblk, hcell⟩ := HA.out i a hla
      have hbc := fun j u hj => (HB.out.cell (p := ⟨ab, ao + i * 5 + j, none⟩) hblk).trans (hcell j u hj)
      have k0 : wr.cell? ⟨ab, ao + i * 5, none⟩ = some (.int .i64 a.wait) := hbc 0 _ rfl
      have k1 := hbc 1 _ rfl
      have k2 := hbc 2 _ rfl
      have k3 := hbc 3 _ rfl
      have k4 := hbc 4 _ rfl
      have LA := Lib.hid hla
      clear hbc hcell hla
      cases hk : instOk a with
      | true =>
        have HK := Lib.hid hk
        obtain ⟨q1, q2, q3, q4, q5, q6⟩ := instOk_parts hk
        have d1 : decide (a.wait < 0) = false := by simp; omega
        have d2 : decide (1000000000000000 < a.wait) = false := by simp; omega
        have d3 : (a.long != 0) = false := by simpa using q3
        have d4 : decide (a.err < 0) = false := by simp; omega
        have d5 : decide (7 ≤ a.err) = false := by simp; omega
        rw [q6] at k4
        clear hk q1 q2 q3 q4 q5 q6
        go_wp2_with fail
        go_roundg (l.length - (i + 1))
        case measure => omega
        case rel =>
          refine ⟨i + 1, rfl, hin, by first | rfl | (simp; done), Lib.hid ⟨HB.out.alloc HB.out.size _, ?_⟩⟩
          intro j k hj hk
          rcases Nat.lt_or_ge j i with h | h
          · exact HP.out j k h hk
          · have e : j = i := by omega
            subst e
            rw [LA.out] at hk
            cases hk
            exact HK.out
      | false =>
        have hno : inst l = false := by
          unfold inst
          have : l.all instOk = false := by
            cases hx : l.all instOk with
            | false => rfl
            | true => have := inst_get hx LA.out; rw [hk] at this; cases this
          rw [this]; rfl
        have HNO := Lib.hid hno
        clear hno
        rcases instNo_parts hk with q1 | ⟨q1, q2⟩ | ⟨q1, q2, q3⟩ | ⟨q1, q2, q3, q4⟩ | ⟨q1, q2, q3, q4, q5⟩ | ⟨q1, q2, q3, q4, q5, q6⟩
        · have d1 : decide (a.wait < 0) = true := by simp; omega
          clear hk q1
          go_wp2_with fail
          go_ret
          exact ⟨by rw [HNO.out]; rfl, HB.out.alloc HB.out.size _⟩
        · have d1 : decide (a.wait < 0) = false := by simp; omega
          have d2 : decide (1000000000000000 < a.wait) = true := by simp; omega
          clear hk q1 q2
          go_wp2_with fail
          go_ret
          exact ⟨by rw [HNO.out]; rfl, HB.out.alloc HB.out.size _⟩
        · have d1 : decide (a.wait < 0) = false := by simp; omega
          have d2 : decide (1000000000000000 < a.wait) = false := by simp; omega
          have d3 : (a.long != 0) = true := by simpa using q3
          clear hk q1 q2 q3
          go_wp2_with fail
          go_ret
          exact ⟨by rw [HNO.out]; rfl, HB.out.alloc HB.out.size _⟩
        · have d1 : decide (a.wait < 0) = false := by simp; omega
          have d2 : decide (1000000000000000 < a.wait) = false := by simp; omega
          have d3 : (a.long != 0) = false := by simpa using q3
          have d4 : decide (a.err < 0) = true := by simp; omega
          clear hk q1 q2 q3 q4
          go_wp2_with fail
          go_ret
          exact ⟨by rw [HNO.out]; rfl, HB.out.alloc HB.out.size _⟩
        · have d1 : decide (a.wait < 0) = false := by simp; omega
          have d2 : decide (1000000000000000 < a.wait) = false := by simp; omega
          have d3 : (a.long != 0) = false := by simpa using q3
          have d4 : decide (a.err < 0) = false := by simp; omega
          have d5 : decide (7 ≤ a.err) = true := by simp; omega
          clear hk q1 q2 q3 q4 q5
          go_wp2_with fail
          go_ret
          exact ⟨by rw [HNO.out]; rfl, HB.out.alloc HB.out.size _⟩
        · have d1 : decide (a.wait < 0) = false := by simp; omega
          have d2 : decide (1000000000000000 < a.wait) = false := by simp; omega
          have d3 : (a.long != 0) = false := by simpa using q3
          have d4 : decide (a.err < 0) = false := by simp; omega
          have d5 : decide (7 ≤ a.err) = false := by simp; omega
          rw [q6] at k4
          clear hk q1 q2 q3 q4 q5 q6
          go_wp2_with fail
          go_ret
          exact ⟨by rw [HNO.out]; rfl, HB.out.alloc HB.out.size _⟩
    · have hiz : ¬ ((i : Int) < (l.length : Int)) := by omega
      have hall : l.all instOk = true := by
        rw [List.all_eq_true]
        intro x hx
        obtain ⟨j, hj⟩ := List.getElem?_of_mem hx
        have hjl : j < l.length := by
          rcases Nat.lt_or_ge j l.length with h | h
          · exact h
          · rw [List.getElem?_eq_none h] at hj; cases hj
        exact HP.out j x (by omega) hj
      have he : inst l = decide (l.length ≤ 100) := by unfold inst; rw [hall]; rfl
      have HE := Lib.hid he
      by_cases h100 : l.length ≤ 100
      · have hz : (l.length : Int) ≤ 100 := by omega
        have HH := Lib.hid (decide_eq_true h100)
        clear hall he h100
        go_wp2_with fail
        go_ret
        exact ⟨by rw [HE.out, HH.out]; rfl, HB.out⟩
      · have hz : ¬ ((l.length : Int) ≤ 100) := by omega
        have HH := Lib.hid (decide_eq_false h100)
        clear hall he h100
        go_wp2_with fail
        go_ret
        exact ⟨by rw [HE.out, HH.out]; rfl, HB.out⟩

end Go.Proofs.Ytcjklacfoldaoaa

/- Contracts of roll, grow and age, and of currentState where the window rolls. Conditions: the blocks hold the breaker, the numbers are in their ranges. -/
namespace Go.Proofs.Ytcjklacfoldaoaa
open Go.RowKit
attribute [local go_sem ↓] Go.wp_at_zero Go.wp_at_succ

theorem RC.subtract_bs (c : RC) (k : Nat) : (c.subtract k).bs = c.bs ∧ (c.subtract k).age = c.age := ⟨rfl, rfl⟩

set_option maxRecDepth 100000 in
set_option maxHeartbeats 2000000 in
theorem rcRoll_any (rc bk : Nat) (c : RC) (w : World) (h : RCat w rc bk c) (ok : c.Ok) (hne : rc ≠ bk) (ha : c.age + 1 ≤ 9000000000000000000) :
    Calls Try.prog 107 #[.pointer (some ⟨rc, 0, none⟩)] w fun e w' => e = .returned (.tuple #[]) ∧ RCat w' rc bk c.roll ∧ Mod [rc, bk] w w' := by
  obtain ⟨hc, hf⟩ := h.cells
  have g6 := hc 6
  have f6 := hf 6
  have g7 := hc 7
  simp at g6 g7
  have a0 := ok.age0
  have hp := ok.pos
  have hq := ok.few
  have H := Lib.hid h
  have ea : IntKind.u64.wrap (c.age + 1) = c.age + 1 := wrap64 (by omega) (by omega)
  have hn0 : ((c.bs.length : Int) == 0) = false := by rw [beq_eq_false_iff_ne]; omega
  obtain ⟨j, hj, hjl⟩ := age_slot (n := c.bs.length) ok.pos (a := c.age + 1) (by omega)
  have HJ := Lib.hid hj
  clear h hc hf hj
  go_enter Try.func107, Try.ntmps107
  go_upto_region 1 with fail
  have H1 := Lib.hid (H.out.setAge hne (c.age + 1))
  have M1 := Lib.hid (show Mod [rc, bk] w (w.setCell ⟨rc, 6, none⟩ (.int .u64 (c.age + 1))) from (Mod.refl _ _).setCell _ _ (by simp))
  clear g6 f6 g7
  generalize w.setCell ⟨rc, 6, none⟩ (.int .u64 (c.age + 1)) = W1 at *
  have g7 := (H1.out.cells).1 7
  simp at g7
  go_wp2_with fail
  refine (rcCurrent_any rc bk { c with age := c.age + 1 } _ H1.out ⟨hp, hq, by show 0 ≤ c.age + 1; omega, by show c.age + 1 ≤ _; omega⟩ j HJ.out).mono ?_
  rintro e w' ⟨rfl, rfl⟩
  clear g7
  go_wp2_with fail
  refine (rcSub_any rc bk { c with age := c.age + 1 } j _ H1.out hne hjl hq).mono ?_
  rintro e w2 ⟨rfl, h2, m2⟩
  have H2 := Lib.hid h2
  have M2 := Lib.hid (M1.out.trans m2)
  have g7 := (h2.cells).1 7
  simp only [RC.subtract_bs] at g7
  simp at g7
  obtain ⟨hb, hbf⟩ := h2.buck (j := j) hjl
  have HB := Lib.hid hb
  have HBF := Lib.hid hbf
  have j0 : (0 : Int) ≤ (j : Int) := by omega
  have j1 : (j : Int) < (c.bs.length : Int) := by omega
  clear h2 m2 hb hbf
  go_wp2_with fail
  refine (cntClear_any bk (j * 6) _ _ HB.out HBF.out).mono ?_
  rintro e w' ⟨rfl, rfl⟩
  have H3 := Lib.hid (H2.out.zeroBuck hne (j := j) hjl)
  have M3 := Lib.hid (M2.out.zero6 (b := bk) (by simp) (j * 6))
  clear g7
  go_wp2_with fail
  go_end0
  refine ⟨rfl, ?_, M3.out⟩
  have e : c.roll = { (({ c with age := c.age + 1 } : RC).subtract j) with bs := (({ c with age := c.age + 1 } : RC).subtract j).bs.modify j (fun _ => Cnt.zero) } := by
    unfold RC.roll
    rw [show w64u (c.age + 1) = c.age + 1 from ea]
    simp only [HJ.out, Int.toNat_natCast]
  rw [e]
  exact H3.out

theorem rolls_ok {c : RC} (ok : c.Ok) (ha : c.age + 1 ≤ 9000000000000000000) : c.roll.Ok ∧ c.roll.bs.length = c.bs.length ∧ c.roll.age = c.age + 1 := by
  have a0 := ok.age0
  have e1 : c.roll.bs.length = c.bs.length := by unfold RC.roll; simp [RC.subtract]
  have e2 : c.roll.age = c.age + 1 := by
    show w64u (c.age + 1) = c.age + 1
    exact roll_u64 (by omega) (by omega)
  exact ⟨⟨by rw [e1]; exact ok.pos, by rw [e1]; exact ok.few, by omega, by omega⟩, e1, e2⟩

set_option maxRecDepth 100000 in
set_option maxHeartbeats 2000000 in
theorem rcGrow_any (rc bk : Nat) (c : RC) (a : Int) (w : World) (h : RCat w rc bk c) (ok : c.Ok) (hne : rc ≠ bk) (a0 : 0 ≤ a) (a1 : a ≤ 9000000000000000000) :
    Calls Try.prog 94 #[.pointer (some ⟨rc, 0, none⟩), .int .u64 a] w fun e w' => e = .returned (.tuple #[]) ∧ RCat w' rc bk (c.grow a) ∧ Mod [rc, bk] w w' := by
  obtain ⟨hc, hf⟩ := h.cells
  have g6 := hc 6
  have g7 := hc 7
  simp at g6 g7
  have b0 := ok.age0
  have b1 := ok.age1
  have hp := ok.pos
  have hq := ok.few
  have H := Lib.hid h
  have OK := Lib.hid ok
  have i6 : IntKind.u64.wrap (c.bs.length : Int) = (c.bs.length : Int) := wrap64 (by omega) (by omega)
  clear h hc hf ok
  by_cases h1 : a ≤ c.age
  · have d1 : decide (a ≤ c.age) = true := by simpa using h1
    have E := Lib.hid (show c.grow a = c by unfold RC.grow; rw [if_pos h1])
    clear h1
    go_enter Try.func94, Try.ntmps94
    go_wp2_with fail
    refine bodyPost_ret (results_none rfl _ _ _) rfl ?_
    exact ⟨rfl, by rw [E.out]; exact H.out, Mod.refl _ _⟩
  · have d1 : decide (a ≤ c.age) = false := by simpa using h1
    have ed : IntKind.u64.wrap (a - c.age) = a - c.age := wrap64 (by omega) (by omega)
    by_cases h2 : (c.bs.length : Int) ≤ a - c.age
    · have d2 : decide ((c.bs.length : Int) ≤ a - c.age) = true := by simpa using h2
      have E := Lib.hid (show c.grow a = { c.clear with age := a } by unfold RC.grow; rw [if_neg h1, if_pos h2])
      clear h1 h2
      go_enter Try.func94, Try.ntmps94
      go_wp2_with fail
      refine (rcClear_any rc bk c _ H.out hne hq).mono ?_
      rintro e w2 ⟨rfl, h2, m2⟩
      have H2 := Lib.hid h2
      have M2 := Lib.hid m2
      have k6 := (h2.cells).1 6
      have f6 := (h2.cells).2 6
      simp at k6
      clear h2 m2 g6 g7
      go_wp2_with fail
      go_end0
      refine ⟨rfl, ?_, M2.out.setCell _ _ (by simp)⟩
      rw [E.out]
      exact H2.out.setAge hne a
    · have d2 : decide ((c.bs.length : Int) ≤ a - c.age) = false := by simpa using h2
      obtain ⟨n, hn⟩ : ∃ n : Nat, a - c.age = (n : Int) := ⟨(a - c.age).toNat, by omega⟩
      have E := Lib.hid (show c.grow a = RC.rolls n c by unfold RC.grow; rw [if_neg h1, if_neg h2, hn]; rfl)
      have hnb : n ≤ 1000000 := by omega
      have hsum : c.age + (n : Int) = a := by omega
      have HN := Lib.hid hn
      rw [hn] at d2 ed
      have d3 : decide (c.bs.length ≤ n) = false := by simp; omega
      have d4 : ¬ c.bs.length ≤ n := by omega
      clear h1 h2
      go_enter Try.func94, Try.ntmps94
      go_upto_region 1 with fail
      go_cut [4] (fun s4 wx => s4 = Value.int IntKind.u64 (n : Int) ∧ w = wx)
      case first =>
        go_wp2_with fail
        go_meet
        exact ⟨by first | rfl | (rw [HN.out]; exact congrArg _ ed), rfl⟩
      case rest =>
      obtain ⟨rfl, rfl⟩ := hcut
      go_wp2_with fail
      go_loopg [32] n (fun g s32 wx => ∃ (i : Nat) (d : RC), g = n - i ∧ i ≤ n ∧ s32 = .int .u64 (i : Int) ∧ Hid (RCat wx rc bk d ∧ d.Ok ∧ d.age = c.age + i ∧ RC.rolls (n - i) d = RC.rolls n c ∧ Mod [rc, bk] w wx))
      case atStart => exact ⟨0, c, rfl, Nat.zero_le _, rfl, Lib.hid ⟨H.out, OK.out, by simp, rfl, Mod.refl _ _⟩⟩
      case round =>
        obtain ⟨i, d, rfl, hi, rfl, hh⟩ := hrel
        obtain ⟨hR, hO, hA, hS, hM⟩ := hh.out
        have HR := Lib.hid hR
        have HO := Lib.hid hO
        have HA := Lib.hid hA
        have HS := Lib.hid hS
        have HM := Lib.hid hM
        have hag : d.age + 1 ≤ 9000000000000000000 ∨ ¬ i < n := by omega
        have HAG := Lib.hid hag
        clear hh hR hO hA hS hM hag
        by_cases hin : i < n
        · have hiz : (i : Int) < (n : Int) := by omega
          have e3 : IntKind.u64.wrap ((i : Int) + 1) = (i : Int) + 1 := wrap64 (by omega) (by omega)
          have hag2 := Lib.hid (HAG.out.resolve_right (fun q => q hin))
          go_wp2_with fail
          refine (rcRoll_any rc bk d _ HR.out HO.out hne hag2.out).mono ?_
          rintro e w2 ⟨rfl, h2, m2⟩
          go_wp2_with fail
          go_roundg (n - (i + 1))
          case measure => omega
          case rel =>
            obtain ⟨q1, q2, q3⟩ := rolls_ok HO.out hag2.out
            refine ⟨i + 1, d.roll, rfl, hin, by first | rfl | (simp; done), Lib.hid ⟨h2, q1, ?_, ?_, HM.out.trans m2⟩⟩
            · rw [q3, HA.out]; omega
            · rw [← HS.out, show n - i = n - (i + 1) + 1 by omega, RC.rolls]
        · have hiz : ¬ ((i : Int) < (n : Int)) := by omega
          have hie := Lib.hid (show n - i = 0 by omega)
          go_wp2_with fail
          go_end0
          refine ⟨rfl, ?_, HM.out⟩
          rw [E.out, ← HS.out, hie.out, RC.rolls]
          exact HR.out

end Go.Proofs.Ytcjklacfoldaoaa

/- Contracts of age, and of currentState where the window rolls. Conditions: the breaker, its bed and its rules lie in their blocks, the numbers are in their ranges. -/
namespace Go.Proofs.Ytcjklacfoldaoaa
open Go.RowKit
attribute [local go_sem ↓] Go.wp_at_zero Go.wp_at_succ

theorem ageAt_parts {c : CB} {now : Int} (hr : RollCond c now) (_ok : c.Ok) (n1 : now ≤ 3000000000000000000) : (now - c.start).tdiv c.period = c.ageAt now ∧ 0 ≤ c.ageAt now ∧ c.ageAt now ≤ 6000000000000000000 := by
  have s0 := hr.start0
  have s1 := hr.start1
  have p := hr.per
  unfold CB.ageAt
  rw [if_neg (by omega), Int.tdiv_eq_ediv_of_nonneg (by omega)]
  refine ⟨rfl, Int.ediv_nonneg (by omega) (by omega), ?_⟩
  exact Int.le_trans (Int.ediv_le_self _ (by omega)) (by omega)

set_option maxRecDepth 100000 in
set_option maxHeartbeats 2000000 in
theorem age_any (L : Loc) (cr : Nat) (r : Rules) (c : CB) (now : Int) (chs : List (Int × Int)) (w : World) (h : Sys w L cr r c now chs) (hr : RollCond c now) :
    Calls Try.prog 95 #[.pointer (some ⟨L.cb, 0, none⟩), .agg #[.int .u64 (NS now), .int .i64 (SEC now), .pointer none]] w fun e w' => e = .returned (.int .u64 (c.ageAt now)) ∧ Below w.heap.size w w' := by
  have HS := Lib.hid h
  obtain ⟨z1, z2, z3, z4, z5, z6, z7⟩ := h.lts
  obtain ⟨hc, hf⟩ := h.cb.cells
  have g4 := hc 4
  have g13 := hc 13
  have g14 := hc 14
  have g15 := hc 15
  simp at g4 g13 g14 g15
  have n0 := h.now0
  have n1 := h.now1
  have s0 := hr.start0
  have s1 := hr.start1
  have p0 := hr.per
  obtain ⟨a1, a2, a3⟩ := ageAt_parts hr h.ok n1
  obtain ⟨A, hA⟩ : ∃ A, A = c.ageAt now := ⟨_, rfl⟩
  rw [← hA] at a1 a2 a3 ⊢
  have e1 : ¬ c.period = 0 := by omega
  have e1b : (c.period == 0) = false := by rw [beq_eq_false_iff_ne]; exact e1
  have e2 : IntKind.i64.wrap A = A := by
    simp [IntKind.wrap, IntKind.signed, IntKind.bits]
    omega
  have e3 : IntKind.u64.wrap A = A := wrap64 (by omega) (by omega)
  have e4 : decide (A < 0) = false := by simp; omega
  have S1 := Lib.hid (h.alloc (Obj.cells #[Value.int IntKind.u64 (NS now), Value.int IntKind.i64 (SEC now), Value.pointer none] 118))
  have B1 := Lib.hid (heap_alloc_new w (Obj.cells #[Value.int IntKind.u64 (NS now), Value.int IntKind.i64 (SEC now), Value.pointer none] 118))
  have y1 : L.cb ≠ w.heap.size := by omega
  have y3 := y1.symm
  clear h hc hf hr hA
  go_enter Try.func95, Try.ntmps95
  go_wp2_with fail
  go_region_held3 (fun w' => w'.cell? ⟨L.cb, 13, none⟩ = some (.int .u64 (NS c.start)) ∧ w'.cell? ⟨L.cb, 14, none⟩ = some (.int .i64 (SEC c.start)) ∧ w'.cell? ⟨L.cb, 15, none⟩ = some (.pointer none) ∧ w'.cell? ⟨w.heap.size, 0, none⟩ = some (.int .u64 (NS now)) ∧ w'.cell? ⟨w.heap.size, 1, none⟩ = some (.int .i64 (SEC now)) ∧ w'.cell? ⟨w.heap.size, 2, none⟩ = some (.pointer none)) (first | (go_keep; done) | ((try dsimp only); exact ⟨p13, p14, p15, q0, q1, q2⟩))
    ((first | (go_at_call 108; refine (sub_any now c.start _ (by omega) (by omega) (by omega) (by omega)).mono ?_; rintro e w2 ⟨rfl, hb2⟩; have S2 := Lib.hid (S1.out.drew.below hb2); obtain ⟨cc, _⟩ := S2.out.cb.cells; have p13 := cc 13; have p14 := cc 14; have p15 := cc 15; obtain ⟨c2, _, hz2, B2⟩ := kept hb2 (heap_drew B1.out); have q0 := c2 0; have q1 := c2 1; have q2 := c2 2; simp at p13 p14 p15 q0 q1 q2; clear cc c2)))
  clear p13 p14 p15 q0 q1 q2 g4 g13 g14 g15
  obtain ⟨hc, _⟩ := S2.out.cb.cells
  have g4 := hc 4
  simp at g4
  clear hc
  have BF := Lib.hid (show Below w.heap.size w w2 from (((Below.refl w.heap.size w).alloc (Nat.le_refl _) _).drew).trans (hb2.mono (by simp)))
  go_wp2_with fail
  go_ret
  exact ⟨rfl, BF.out⟩

theorem rolls_parts (n : Nat) {c : RC} (ok : c.Ok) (ha : c.age + n ≤ 9000000000000000000) : (RC.rolls n c).Ok ∧ (RC.rolls n c).bs.length = c.bs.length ∧ (RC.rolls n c).age = c.age + n := by
  induction n generalizing c with
  | zero => exact ⟨ok, rfl, by simp [RC.rolls]⟩
  | succ n ih =>
    obtain ⟨q1, q2, q3⟩ := rolls_ok ok (by omega)
    obtain ⟨r1, r2, r3⟩ := ih q1 (by omega)
    exact ⟨r1, r2.trans q2, by rw [RC.rolls, r3, q3]; omega⟩
theorem grow_parts {c : RC} (ok : c.Ok) {a : Int} (a0 : 0 ≤ a) (a1 : a ≤ 9000000000000000000) : (c.grow a).Ok ∧ (c.grow a).bs.length = c.bs.length ∧ a ≤ (c.grow a).age ∧ c.age ≤ (c.grow a).age := by
  unfold RC.grow
  by_cases h1 : a ≤ c.age
  · rw [if_pos h1]; exact ⟨ok, rfl, h1, Int.le_refl _⟩
  · rw [if_neg h1]
    by_cases h2 : (c.bs.length : Int) ≤ a - c.age
    · rw [if_pos h2]
      exact ⟨⟨by simpa [RC.clear] using ok.pos, by simpa [RC.clear] using ok.few, a0, a1⟩, by simp [RC.clear], Int.le_refl _, by show c.age ≤ a; omega⟩
    · rw [if_neg h2]
      have b0 := ok.age0
      obtain ⟨q1, q2, q3⟩ := rolls_parts (a - c.age).toNat ok (by omega)
      exact ⟨q1, q2, by omega, by omega⟩

def CB.grown (c : CB) (now : Int) : CB := { c with rc := c.rc.grow (c.ageAt now) }
theorem grown_ok {c : CB} (ok : c.Ok) {now : Int} (h0 : 0 ≤ c.ageAt now) (h1 : c.ageAt now ≤ 6000000000000000000) : (c.grown now).Ok := by
  obtain ⟨q1, q2, _, _⟩ := grow_parts (c := c.rc) ⟨ok.pos, ok.few, ok.age0, ok.age1⟩ h0 (by omega)
  exact ⟨q1.pos, q1.few, q1.age0, q1.age1, ok.int0, ok.int1, ok.per0, ok.per1, ok.tim0, ok.tim1, ok.st0, ok.st1⟩

set_option maxRecDepth 100000 in
set_option maxHeartbeats 2000000 in
theorem cur_grown (L : Loc) (cr : Nat) (r : Rules) (c : CB) (now : Int) (chs : List (Int × Int)) (w : World) (h : Sys w L cr r c now chs) (hst : c.state = 0) (hx : c.exp = T0) (hn : 2 ≤ c.rc.bs.length) (hr : RollCond c now) :
    Calls Try.prog 76 #[.pointer (some ⟨L.cb, 0, none⟩), .agg #[.int .u64 (NS now), .int .i64 (SEC now), .pointer none]] w fun e w' => e = .returned (.tuple #[.int .i64 (c.grown now).state, .int .u64 (c.grown now).gen, .int .u64 (c.grown now).rc.age]) ∧ Evo L r w cr w' (c.grown now) now chs := by
  have HX := Lib.hid hx
  clear hx
  have HS := Lib.hid h
  have HR := Lib.hid hr
  have HST := Lib.hid hst
  obtain ⟨z1, z2, z3, z4, z5, z6, z7⟩ := h.lts
  obtain ⟨hc, hf⟩ := h.cb.cells
  have g10 := hc 10
  have g11 := hc 11
  have g12 := hc 12
  have g16 := hc 16
  have g17 := hc 17
  have g18 := hc 18
  simp at g10 g11 g12 g16 g17 g18
  rw [hst] at g10
  have g7 := h.cb.rc.cells.1 7
  have g6 := h.cb.rc.cells.1 6
  simp at g6 g7
  have AP := Lib.hid (ageAt_parts hr h.ok h.now1)
  have S1 := Lib.hid (h.alloc (Obj.cells #[Value.int IntKind.u64 (NS now), Value.int IntKind.i64 (SEC now), Value.pointer none] 118))
  have B1 := Lib.hid (heap_alloc_new w (Obj.cells #[Value.int IntKind.u64 (NS now), Value.int IntKind.i64 (SEC now), Value.pointer none] 118))
  have y1 : L.cb ≠ w.heap.size := by omega
  have y2 : L.rc ≠ w.heap.size := by omega
  have y3 := y1.symm
  have y4 := y2.symm
  have hbk : L.bk ≠ w.heap.size := by omega
  clear h hst hc hf hr
  go_enter Try.func76, Try.ntmps76
  go_wp2_with fail
  first | (go_region_with ((go_at_call 92; refine (isZero_yes c.exp _ HX.out).mono ?_; rintro e w2 ⟨rfl, hb2⟩; have S2 := Lib.hid (S1.out.drew.below hb2); obtain ⟨cc, _⟩ := S2.out.cb.cells; have p16 := cc 16; have p17 := cc 17; have p18 := cc 18; obtain ⟨c2, _, hz2, B2⟩ := kept hb2 (heap_drew B1.out); have q0 := c2 0; have q1 := c2 1; have q2 := c2 2; simp at p16 p17 p18 q0 q1 q2; clear cc c2))) | fail
  all_goals (
    clear p16 p17 p18
    clear g10 g11 g12 g16 g17 g18 g6 g7
    obtain ⟨hc, hf⟩ := S2.out.cb.cells
    have g10 := hc 10
    have g12 := hc 12
    have g7 := S2.out.cb.rc.cells.1 7
    simp at g10 g12 g7
    rw [HST.out] at g10
    clear hc hf
    have hn' : (2 : Int) ≤ (c.rc.bs.length : Int) := by omega
    have HB2 := Lib.hid B2
    have HB1 := Lib.hid (show Below w.heap.size w w2 from (((Below.refl w.heap.size w).alloc (Nat.le_refl _) (Obj.cells #[Value.int IntKind.u64 (NS now), Value.int IntKind.i64 (SEC now), Value.pointer none] 118)).drew).trans (hb2.mono (by simp)))
    clear B2
    go_wp2_with fail
    go_region_held3 (fun w' => w'.cell? ⟨L.cb, 12, none⟩ = some (.pointer (some ⟨L.rc, 0, none⟩)) ∧ w'.cell? ⟨w.heap.size, 0, none⟩ = some (.int .u64 (NS now)) ∧ w'.cell? ⟨w.heap.size, 1, none⟩ = some (.int .i64 (SEC now)) ∧ w'.cell? ⟨w.heap.size, 2, none⟩ = some (.pointer none)) (first | (go_keep; done) | ((try dsimp only); exact ⟨s12, s0, s1, s2⟩))
      ((first
        | (go_at_call 94; refine (rcGrow_any L.rc L.bk c.rc (c.ageAt now) _ S3.out.cb.rc ⟨S3.out.ok.pos, S3.out.ok.few, S3.out.ok.age0, S3.out.ok.age1⟩ S3.out.lok.rc_bk AP.out.2.1 (by have := AP.out.2.2; omega)).mono ?_; rintro e w4 ⟨rfl, hr4, hm4⟩; have S4 := Lib.hid (S3.out.withCb (c' := c.grown now) (CBat.withRc (c := c) (hm4.heap S3.out.cb.cb (by simp [S3.out.lok.cb_rc, S3.out.lok.cb_bk])) hr4) (grown_ok S3.out.ok AP.out.2.1 AP.out.2.2) (hm4.mono (by simp))); have HB4 := Lib.hid (hm4.heap HB3.out (by simp; omega)); have s12 := S4.out.cb.cells.1 12; have s0 := blk_cell HB4.out 0; have s1 := blk_cell HB4.out 1; have s2 := blk_cell HB4.out 2; simp at s12 s0 s1 s2)
        | (go_at_call 95; refine (age_any L cr r c now chs _ S2.out.drew HR.out).mono ?_; rintro e w3 ⟨rfl, hb3⟩; have S3 := Lib.hid (S2.out.drew.below hb3); have HB3 := Lib.hid ((hb3.block w.heap.size (size_of_heap (heap_drew HB2.out))).trans (heap_drew HB2.out)); have s12 := S3.out.cb.cells.1 12; have s0 := blk_cell HB3.out 0; have s1 := blk_cell HB3.out 1; have s2 := blk_cell HB3.out 2; simp at s12 s0 s1 s2)))
    clear s12 s0 s1 s2 g10 g12 g7 q0 q1 q2
    have EF := Lib.hid (show Evo L r w cr w4 (c.grown now) now chs from ⟨cr, S4.out, .inl rfl, ((Mod.of_below (HB1.out.trans ((((Below.refl _ w2).drew).trans hb3).mono HB1.out.size))).trans (hm4.mono (by simp)))⟩)
    obtain ⟨crF, sF, kF, mF⟩ := EF.out
    obtain ⟨hcF, _⟩ := sF.cb.cells
    have k10 := hcF 10
    have k11 := hcF 11
    have k12 := hcF 12
    have r6 := sF.cb.rc.cells.1 6
    simp at k10 k11 k12 r6
    have SF := Lib.hid sF
    have KF := Lib.hid kF
    have MF := Lib.hid mF
    clear hcF EF sF kF mF
    go_wp2_with fail
    go_quiet (fail)
    go_wp2_with fail
    go_ret3
    exact ⟨rfl, crF, SF.out.drewN _, KF.out, MF.out.drewN _⟩)

theorem roll_said : RollSaid := by
  intro L cr r c now chs w h _ hst hx hn hr
  have e : c.look now = c.grown now := by
    unfold CB.look CB.grown
    rw [if_pos hst, if_neg (by simp [hx]), if_pos hn]
  rw [e]
  exact cur_grown L cr r c now chs w h hst hx hn hr

end Go.Proofs.Ytcjklacfoldaoaa

/- Contracts of currentState and State where the window rolls and nothing is due: only memory is made. Conditions: the breaker, its bed and its rules lie in their blocks, the numbers are in their ranges. -/
namespace Go.Proofs.Ytcjklacfoldaoaa
open Go.RowKit
attribute [local go_sem ↓] Go.wp_at_zero Go.wp_at_succ

set_option maxHeartbeats 1000000 in
theorem rcGrow_idle (rc bk : Nat) (c : RC) (a : Int) (w : World) (h : RCat w rc bk c) (hle : a ≤ c.age) :
    Calls Try.prog 94 #[.pointer (some ⟨rc, 0, none⟩), .int .u64 a] w fun e w' => e = .returned (.tuple #[]) ∧ w = w' := by
  obtain ⟨hc, hf⟩ := h.cells
  have g6 := hc 6
  simp at g6
  have d1 : decide (a ≤ c.age) = true := by simpa using hle
  clear h hc hf hle
  go_enter Try.func94, Try.ntmps94
  go_wp2_with fail
  refine bodyPost_ret (results_none rfl _ _ _) rfl ?_
  exact ⟨rfl, rfl⟩

set_option maxRecDepth 100000 in
set_option maxHeartbeats 2000000 in
theorem idle_grown (L : Loc) (cr : Nat) (r : Rules) (c : CB) (now : Int) (chs : List (Int × Int)) (w : World) (h : Sys w L cr r c now chs) (hst : c.state = 0) (hx : c.exp = T0) (hn : 2 ≤ c.rc.bs.length) (hr : RollCond c now) (hle : c.ageAt now ≤ c.rc.age) :
    Calls Try.prog 76 #[.pointer (some ⟨L.cb, 0, none⟩), .agg #[.int .u64 (NS now), .int .i64 (SEC now), .pointer none]] w fun e w' => e = .returned (.tuple #[.int .i64 c.state, .int .u64 c.gen, .int .u64 c.rc.age]) ∧ Below w.heap.size w w' := by
  have HX := Lib.hid hx
  clear hx
  have HS := Lib.hid h
  have HR := Lib.hid hr
  have HLE := Lib.hid hle
  clear hle
  have HST := Lib.hid hst
  obtain ⟨z1, z2, z3, z4, z5, z6, z7⟩ := h.lts
  obtain ⟨hc, hf⟩ := h.cb.cells
  have g10 := hc 10
  have g11 := hc 11
  have g12 := hc 12
  have g16 := hc 16
  have g17 := hc 17
  have g18 := hc 18
  simp at g10 g11 g12 g16 g17 g18
  rw [hst] at g10
  have g7 := h.cb.rc.cells.1 7
  have g6 := h.cb.rc.cells.1 6
  simp at g6 g7
  have AP := Lib.hid (ageAt_parts hr h.ok h.now1)
  have S1 := Lib.hid (h.alloc (Obj.cells #[Value.int IntKind.u64 (NS now), Value.int IntKind.i64 (SEC now), Value.pointer none] 118))
  have B1 := Lib.hid (heap_alloc_new w (Obj.cells #[Value.int IntKind.u64 (NS now), Value.int IntKind.i64 (SEC now), Value.pointer none] 118))
  have y1 : L.cb ≠ w.heap.size := by omega
  have y2 : L.rc ≠ w.heap.size := by omega
  have y3 := y1.symm
  have y4 := y2.symm
  have hbk : L.bk ≠ w.heap.size := by omega
  clear h hst hc hf hr
  go_enter Try.func76, Try.ntmps76
  go_wp2_with fail
  first | (go_region_with ((go_at_call 92; refine (isZero_yes c.exp _ HX.out).mono ?_; rintro e w2 ⟨rfl, hb2⟩; have S2 := Lib.hid (S1.out.drew.below hb2); obtain ⟨cc, _⟩ := S2.out.cb.cells; have p16 := cc 16; have p17 := cc 17; have p18 := cc 18; obtain ⟨c2, _, hz2, B2⟩ := kept hb2 (heap_drew B1.out); have q0 := c2 0; have q1 := c2 1; have q2 := c2 2; simp at p16 p17 p18 q0 q1 q2; clear cc c2))) | fail
  all_goals (
    clear p16 p17 p18
    clear g10 g11 g12 g16 g17 g18 g6 g7
    obtain ⟨hc, hf⟩ := S2.out.cb.cells
    have g10 := hc 10
    have g12 := hc 12
    have g7 := S2.out.cb.rc.cells.1 7
    simp at g10 g12 g7
    rw [HST.out] at g10
    clear hc hf
    have hn' : (2 : Int) ≤ (c.rc.bs.length : Int) := by omega
    have HB2 := Lib.hid B2
    have HB1 := Lib.hid (show Below w.heap.size w w2 from (((Below.refl w.heap.size w).alloc (Nat.le_refl _) (Obj.cells #[Value.int IntKind.u64 (NS now), Value.int IntKind.i64 (SEC now), Value.pointer none] 118)).drew).trans (hb2.mono (by simp)))
    clear B2
    go_wp2_with fail
    go_region_held3 (fun w' => w'.cell? ⟨L.cb, 12, none⟩ = some (.pointer (some ⟨L.rc, 0, none⟩)) ∧ w'.cell? ⟨w.heap.size, 0, none⟩ = some (.int .u64 (NS now)) ∧ w'.cell? ⟨w.heap.size, 1, none⟩ = some (.int .i64 (SEC now)) ∧ w'.cell? ⟨w.heap.size, 2, none⟩ = some (.pointer none)) (first | (go_keep; done) | ((try dsimp only); exact ⟨s12, s0, s1, s2⟩))
      ((first
        | (go_at_call 94; refine (rcGrow_idle L.rc L.bk c.rc (c.ageAt now) _ S3.out.cb.rc HLE.out).mono ?_; rintro e w4 ⟨rfl, rfl⟩)
        | (go_at_call 95; refine (age_any L cr r c now chs _ S2.out.drew HR.out).mono ?_; rintro e w3 ⟨rfl, hb3⟩; have S3 := Lib.hid (S2.out.drew.below hb3); have HB3 := Lib.hid ((hb3.block w.heap.size (size_of_heap (heap_drew HB2.out))).trans (heap_drew HB2.out)); have s12 := S3.out.cb.cells.1 12; have s0 := blk_cell HB3.out 0; have s1 := blk_cell HB3.out 1; have s2 := blk_cell HB3.out 2; simp at s12 s0 s1 s2)))
    clear s12 s0 s1 s2 g10 g12 g7 q0 q1 q2
    have BF := Lib.hid (show Below w.heap.size w w3 from HB1.out.trans ((((Below.refl _ w2).drew).trans hb3).mono HB1.out.size))
    obtain ⟨hcF, _⟩ := S3.out.cb.cells
    have k10 := hcF 10
    have k11 := hcF 11
    have k12 := hcF 12
    have r6 := S3.out.cb.rc.cells.1 6
    simp at k10 k11 k12 r6
    clear hcF
    go_wp2_with fail
    go_quiet (fail)
    go_wp2_with fail
    go_ret3
    exact ⟨rfl, BF.out.trans ⟨rfl, rfl, rfl, Nat.le_refl _, fun _ _ => rfl⟩⟩)

set_option maxHeartbeats 1000000 in
theorem cbState_grown (L : Loc) (cr : Nat) (r : Rules) (c : CB) (now : Int) (chs : List (Int × Int)) (w : World) (h : Sys w L cr r c now chs) (hst : c.state = 0) (hx : c.exp = T0) (hn : 2 ≤ c.rc.bs.length) (hr : RollCond c now) (hle : c.ageAt now ≤ c.rc.age) :
    Calls Try.prog 51 #[.pointer (some ⟨L.cb, 0, none⟩)] w fun e w' => e = .returned (.int .i64 c.state) ∧ Below w.heap.size w w' := by
  have HS := Lib.hid h
  have HX := Lib.hid hx
  have HT := Lib.hid hst
  have HR := Lib.hid hr
  have HL := Lib.hid hle
  obtain ⟨hc, hf⟩ := h.cb.cells
  have g0 := hc 0
  simp [nowV] at g0
  clear h hx hst hr hle hc hf
  go_enter Try.func51, Try.ntmps51
  go_wp2_with fail
  refine (now_any L cr now chs _ HS.out.bed HS.out.now0 HS.out.now1).mono ?_
  rintro e w1 ⟨rfl, hb1⟩
  have S1 := Lib.hid (HS.out.below hb1)
  have B1 := Lib.hid hb1
  clear hb1 g0
  go_wp2_with fail
  have S2 := Lib.hid (S1.out.alloc (Obj.cells #[Value.int IntKind.u64 (NS now), Value.int IntKind.i64 (SEC now), Value.pointer none] 118))
  have B2 := Lib.hid (B1.out.alloc B1.out.size (Obj.cells #[Value.int IntKind.u64 (NS now), Value.int IntKind.i64 (SEC now), Value.pointer none] 118))
  refine (idle_grown L cr r c now chs _ S2.out HT.out HX.out hn HR.out HL.out).mono ?_
  rintro e w3 ⟨rfl, hb3⟩
  have B3 := Lib.hid (B2.out.trans (hb3.mono B2.out.size))
  clear hb3
  go_wp2_with fail
  go_ret
  exact ⟨rfl, B3.out⟩


theorem idleR_grown {c : CB} {now : Int} (hst : c.state = 0) (hx : c.exp = T0) (hn : 2 ≤ c.rc.bs.length) (hr : RollCond c now) (hle : c.ageAt now ≤ c.rc.age) : c.IdleR now :=
  fun L cr r chs w hs _ => cbState_grown L cr r c now chs w hs hst hx hn hr hle

end Go.Proofs.Ytcjklacfoldaoaa

/- Calls that take no time, over a window that rolls (plain), and PlayCalls over it. Conditions: the calls are within the bounds, two buckets or more. -/
namespace Go.Proofs.Ytcjklacfoldaoaa
open Go.RowKit

theorem RC.req_parts (c : RC) : c.req.bs.length = c.bs.length ∧ c.req.age = c.age := by
  unfold RC.req; simp
theorem RC.on_parts (c : RC) (k : Cnt → Cnt) (a : Int) : (c.on k a).bs.length = c.bs.length ∧ (c.on k a).age = c.age := by
  unfold RC.on; split
  · exact ⟨rfl, rfl⟩
  · split <;> simp

/-- What holds of a breaker with a rolling window of n buckets. -/
structure RJ (n : Nat) (c : CB) (now : Int) : Prop where
  len : c.rc.bs.length = n
  st : c.state = 0 ∨ c.state = 1 ∨ c.state = 2
  start0 : -3000000000000000000 ≤ c.start
  start1 : c.start ≤ now
  per : 0 < c.period
  tim : 0 < c.timeout
  expz : c.state = 0 → c.exp = T0
  age0 : 0 ≤ c.rc.age
  age1 : c.rc.age ≤ 6000000000000000000
/-- And nothing is due. -/
structure RI (n : Nat) (c : CB) (now : Int) : Prop extends RJ n c now where
  f0 : c.state = 0 → c.ageAt now ≤ c.rc.age
  f2 : c.state = 2 → now ≤ c.exp

theorem RJ.later {n : Nat} {c : CB} {now now' : Int} (h : RJ n c now) (hl : now ≤ now') : RJ n c now' := ⟨h.len, h.st, h.start0, by have := h.start1; omega, h.per, h.tim, h.expz, h.age0, h.age1⟩
theorem RJ.cond {n : Nat} {c : CB} {now : Int} (h : RJ n c now) : RollCond c now := ⟨h.start0, h.start1, h.per, h.expz⟩
theorem RJ.win {n : Nat} {c : CB} {now : Int} (h : RJ n c now) : Win c now := .inr ⟨roll_said, h.cond⟩
theorem RJ.ages {n : Nat} {c : CB} {now : Int} (h : RJ n c now) (n1 : now ≤ 3000000000000000000) : 0 ≤ c.ageAt now ∧ c.ageAt now ≤ 6000000000000000000 := by
  have s0 := h.start0
  have s1 := h.start1
  have p := h.per
  unfold CB.ageAt
  rw [if_neg (by omega)]
  exact ⟨Int.ediv_nonneg (by omega) (by omega), Int.le_trans (Int.ediv_le_self _ (by omega)) (by omega)⟩
theorem RJ.rcok {n : Nat} {c : CB} {now : Int} (h : RJ n c now) (h1 : 1 ≤ n) (h2 : n ≤ 1000) : c.rc.Ok := ⟨by rw [h.len]; omega, by rw [h.len]; omega, h.age0, by have := h.age1; omega⟩

theorem newGen_ri {n : Nat} {c : CB} {now : Int} (h1 : 2 ≤ n) (hlen : c.rc.bs.length = n) (hst : c.state = 0 ∨ c.state = 1 ∨ c.state = 2) (hper : 0 < c.period) (htim : 0 < c.timeout) (n0 : -3000000000000000000 ≤ now) : RI n (c.newGen now) now := by
  have ea : (c.newGen now).ageAt now = 0 := by
    unfold CB.ageAt CB.newGen
    dsimp only
    rw [if_neg (by omega)]
    simp
  have ex : c.state = 0 → (c.newGen now).exp = T0 := by
    intro h
    show c.expNew now = T0
    unfold CB.expNew
    rw [if_pos h, if_pos (.inr (by omega))]
  refine ⟨⟨by simp [CB.newGen, RC.clear, hlen], hst, n0, Int.le_refl _, hper, htim, ex, Int.le_refl _, by show (0 : Int) ≤ _; omega⟩, fun _ => by rw [ea]; exact Int.le_refl _, ?_⟩
  intro h
  have h' : c.state = 2 := h
  show now ≤ c.expNew now
  unfold CB.expNew
  rw [if_neg (by omega), if_pos h']
  omega

theorem RJ.look {n : Nat} {c : CB} {now : Int} (h : RJ n c now) (h1 : 2 ≤ n) (h2 : n ≤ 1000) (n0 : -3000000000000000000 ≤ now) (n1 : now ≤ 3000000000000000000) : RI n (c.look now) now := by
  rcases h.st with hs | hs | hs
  · have e : c.look now = { c with rc := c.rc.grow (c.ageAt now) } := by
      unfold CB.look
      rw [if_pos hs, if_neg (by simp [h.expz hs]), if_pos (by rw [h.len]; exact h1)]
    obtain ⟨a0, a1⟩ := h.ages n1
    obtain ⟨g1, g2, g3, g4⟩ := grow_parts (h.rcok (by omega) h2) a0 (by omega)
    have hb : (c.rc.grow (c.ageAt now)).age ≤ 6000000000000000000 := by
      have b1 := h.age1
      unfold RC.grow
      by_cases q1 : c.ageAt now ≤ c.rc.age
      · rw [if_pos q1]; exact b1
      · rw [if_neg q1]
        split
        · exact a1
        · have b0 := h.age0
          obtain ⟨_, _, r3⟩ := rolls_parts (c.ageAt now - c.rc.age).toNat (h.rcok (by omega) h2) (by omega)
          rw [r3]; omega
    rw [e]
    exact ⟨⟨g2.trans h.len, h.st, h.start0, h.start1, h.per, h.tim, h.expz, g1.age0, hb⟩, fun _ => g3, fun q => by have q' : c.state = 2 := q; omega⟩
  · have e : c.look now = c := by unfold CB.look; rw [if_neg (by omega), if_neg (by omega)]
    rw [e]
    exact ⟨h, fun q => by omega, fun q => by omega⟩
  · by_cases hx : c.exp < now
    · have e : c.look now = ({ c with state := 1 } : CB).newGen now := by unfold CB.look; rw [if_neg (by omega), if_pos ⟨hs, hx⟩]
      rw [e]
      exact newGen_ri (c := { c with state := 1 }) h1 h.len (.inr (.inl rfl)) h.per h.tim n0
    · have e : c.look now = c := by unfold CB.look; rw [if_neg (by omega), if_neg (by omega)]
      rw [e]
      exact ⟨h, fun q => by omega, fun _ => by omega⟩
theorem RI.same {n : Nat} {c : CB} {now : Int} (h : RI n c now) (h1 : 2 ≤ n) : c.look now = c := by
  unfold CB.look
  rcases h.st with hs | hs | hs
  · rw [if_pos hs, if_neg (by simp [h.expz hs]), if_pos (by rw [h.len]; exact h1)]
    unfold RC.grow
    rw [if_pos (h.f0 hs)]
  · rw [if_neg (by omega), if_neg (by omega)]
  · rw [if_neg (by omega), if_neg (by have := h.f2 hs; omega)]
theorem RI.withRc {n : Nat} {c : CB} {now : Int} (h : RI n c now) {x : RC} (e1 : x.bs.length = c.rc.bs.length) (e2 : x.age = c.rc.age) : RI n { c with rc := x } now :=
  ⟨⟨e1.trans h.len, h.st, h.start0, h.start1, h.per, h.tim, h.expz, by show 0 ≤ x.age; rw [e2]; exact h.age0, by show x.age ≤ _; rw [e2]; exact h.age1⟩, fun q => by show c.ageAt now ≤ x.age; rw [e2]; exact h.f0 q, h.f2⟩
theorem RI.before1 {n : Nat} {c : CB} {now : Int} (h : RI n c now) : RI n c.before1 now := by
  unfold CB.before1
  split
  · exact h
  · split
    · exact h
    · exact h.withRc (RC.req_parts _).1 (RC.req_parts _).2
theorem RI.put {n : Nat} {c : CB} {now : Int} (h : RI n c now) (k : Cnt → Cnt) (a : Int) : RI n (c.put k a) now := h.withRc (RC.on_parts _ _ _).1 (RC.on_parts _ _ _).2
theorem RI.gen {n : Nat} {c : CB} {now : Int} (h : RI n c now) (h1 : 2 ≤ n) (n0 : -3000000000000000000 ≤ now) (s : Int) (hs : s = 0 ∨ s = 1 ∨ s = 2) : RI n (({ c with state := s } : CB).newGen now) now :=
  newGen_ri (c := { c with state := s }) h1 h.len hs h.per h.tim n0
theorem RI.after {n : Nat} {c : CB} {now : Int} (h : RI n c now) (h1 : 2 ≤ n) (n0 : -3000000000000000000 ≤ now) (r : Rules) (g a e : Int) : RI n (c.after r g a e now) now := by
  unfold CB.after
  rw [h.same h1]
  split
  · exact h
  · split
    · exact h.put _ _
    · split
      · unfold CB.onSucc
        split
        · exact h.put _ _
        · split
          · split
            · exact (h.put _ _).gen h1 n0 0 (.inl rfl)
            · exact h.put _ _
          · exact h
      · unfold CB.onFail
        split
        · split
          · exact (h.put _ _).gen h1 n0 2 (.inr (.inr rfl))
          · exact h.put _ _
        · split
          · exact h.gen h1 n0 2 (.inr (.inr rfl))
          · exact h

theorem RI.ready {n : Nat} {c : CB} {now : Int} (h : RJ n c now) (h1 : 2 ≤ n) (h2 : n ≤ 1000) (n0 : -3000000000000000000 ≤ now) (n1 : now ≤ 3000000000000000000) {k : Call} (hl : k.long = 0) (hp : k.pan = false) : c.Ready now k := by
  have hL := h.look h1 h2 n0 n1
  have hB := hL.before1
  have e0 : now + k.long = now := by omega
  refine ⟨h.win, hp, fun _ => by rw [e0]; exact hB.toRJ.win, fun hc _ => ?_⟩
  rw [e0, hB.same h1]
  have ea : (c.look now).before1.rc.age = (c.look now).rc.age := by
    unfold CB.before1
    split
    · rfl
    · split
      · rfl
      · exact (RC.req_parts _).2
  refine ⟨hL.age0, by omega, ?_⟩
  rw [ea, hB.len]
  omega
theorem RI.exec {n : Nat} {c : CB} {now : Int} (h : RJ n c now) (h1 : 2 ≤ n) (h2 : n ≤ 1000) (n0 : -3000000000000000000 ≤ now) (n1 : now ≤ 3000000000000000000) (r : Rules) {k : Call} (hl : k.long = 0) : RI n (execC r c now k) now ∧ execNow c now k = now := by
  have hL := h.look h1 h2 n0 n1
  have hB := hL.before1
  constructor
  · unfold execC
    split
    · rw [show now + k.long = now by omega]
      exact hB.after h1 n0 r _ _ _
    · exact hB
  · unfold execNow
    split <;> omega

theorem fine_roll {n : Nat} {r : Rules} (h1 : 2 ≤ n) (h2 : n ≤ 1000) (l : List Call) {p : PC} {m : Nat} (h : RI n p.c p.now) (hm : m + l.length ≤ 200) (b0 : -1000000000000000 ≤ p.now) (b1 : p.now ≤ 1000000000000000 + 1000000000000000 * m) (ha : l.all instOk = true) :
    PC.FineR r p l ∧ RI n (PC.run r p l).c (PC.run r p l).now := by
  induction l generalizing p m with
  | nil => exact ⟨trivial, h⟩
  | cons k l ih =>
    simp only [List.all_cons, Bool.and_eq_true] at ha
    simp only [List.length_cons] at hm
    obtain ⟨q1, q2, q3, q4, q5, q6⟩ := instOk_parts ha.1
    have hJ : RJ n p.c (p.now + k.wait) := h.toRJ.later (by omega)
    obtain ⟨x1, x2⟩ := RI.exec (r := r) hJ h1 h2 (by omega) (by omega) q3 (k := k)
    have hs : RI n (p.step r k).c (p.step r k).now := by
      show RI n (execC r p.c (p.now + k.wait) k) (execNow p.c (p.now + k.wait) k)
      rw [x2]; exact x1
    have en : (p.step r k).now = p.now + k.wait := x2
    obtain ⟨y1, y2⟩ := ih (p := p.step r k) (m := m + 1) hs (by omega) (by rw [en]; omega) (by rw [en]; omega) ha.2
    exact ⟨⟨⟨q1, by omega, by omega, by omega, q4, q5⟩, RI.ready hJ h1 h2 (by omega) (by omega) q3 q6, y1⟩, y2⟩

theorem RI.idle {n : Nat} {c : CB} {now : Int} (h : RI n c now) (h1 : 2 ≤ n) : c.IdleR now := by
  rcases h.st with hs | hs | hs
  · exact idleR_grown hs (h.expz hs) (by rw [h.len]; exact h1) h.toRJ.cond (h.f0 hs)
  · exact CB.Idle.r (.inr (.inl hs))
  · exact CB.Idle.r (.inr (.inr ⟨hs, h.f2 hs⟩))

theorem buck_new {r : Rules} {N : Nat} (h : Buck r N) (rok : r.Ok) (h2 : r.timeout ≤ 1000000000000000000) : NewSaid r (freshR r N) :=
  fun bd bp rb rs cr now chs w hbed hrb hrs e1 e2 e3 hcr f1 f2 f3 f4 t0 t1 => newCb_roll bd bp rb rs cr now chs r N w h hbed hrb hrs e1 e2 e3 hcr f1 f2 f3 f4 rok h2 t0 t1

set_option maxRecDepth 100000 in
/-- What PlayCalls does over a window that rolls. -/
theorem roll_play {r : Rules} {N : Nat} {start : Int} {l : List Call} (h : Buck r N) (h2 : 2 ≤ N) (rok : r.Ok) (ht : r.timeout ≤ 1000000000000000000) (s0 : -1000000000000000 ≤ start) (s1 : start ≤ 1000000000000000) (ha : l.all instOk = true) (hl : l.length ≤ 100) {va : Value} {w : World} (hv : CallsAt w va l) :
    Calls Try.prog 26 #[rulesV r, .int .i64 start, va] w fun e w' =>
      ∃ vo vc, e = .returned (.tuple #[vo, vc, .int .i64 (PC.run r (PC.fresh (freshR r N) start) l).c.state]) ∧ w'.ownsRow w.heap.size 63 10 vo (PC.run r (PC.fresh (freshR r N) start) l).out.length (toldFlat (PC.run r (PC.fresh (freshR r N) start) l).out) ∧
        w'.ownsRow w.heap.size 34 2 vc (PC.run r (PC.fresh (freshR r N) start) l).chs.length (chFlat (PC.run r (PC.fresh (freshR r N) start) l).chs) ∧ Below w.heap.size w w' := by
  have hp : 0 < timN r := by unfold timN; split <;> omega
  have hi : RI N (PC.fresh (freshR r N) start).c (PC.fresh (freshR r N) start).now := newGen_ri (c := freshR r N) h2 (by simp [freshR]) (.inl rfl) h.b0 hp (by omega)
  obtain ⟨f1, f2⟩ := fine_roll (r := r) h2 h.n1 l (m := 0) hi (by omega) s0 (by simpa [PC.fresh] using s1) ha
  exact playR_any r start va l w (freshR r N) (buck_new h rok ht) (by omega) (by omega) hv (by omega) f1 (f2.idle h2)

end Go.Proofs.Ytcjklacfoldaoaa

/- What the laws about rolling windows begin with. No condition. -/
namespace Go.Proofs.Ytcjklacfoldaoaa
open Go.RowKit

/-- Rules with a window of buckets that trip in a way. -/
def winT (i b tim trip bound : Int) : Rules := ⟨⟨#[]⟩, 0, i, b, tim, trip, bound, false, 0, false, 0⟩
theorem winT_ok (i b tim trip bound : Int) : (winT i b tim trip bound).Ok := ⟨by show (0 : Int) ≤ 0; omega, by show (0 : Int) < 256; omega, by show (0 : Int) ≤ 0; omega, by show (0 : Int) < 256; omega⟩
theorem own_below {w w' : World} {base : Nat} {e : TypeId} {size n : Nat} {v : Value} {xs : List Value} (h : w.ownsRow base e size v n xs) (b : Below w.heap.size w w') : w'.ownsRow base e size v n xs := owns_keep h fun g hg => b.block g (h.lt g hg).2
theorem wrapI {n : Int} (h0 : -9000000000000000000 ≤ n) (h1 : n ≤ 9000000000000000000) : IntKind.i64.wrap n = n := by
  simp [IntKind.wrap, IntKind.signed, IntKind.bits]
  omega
theorem and7i (x : Int) : ∃ k : Nat, (2 : Int) + bits BinOp.and IntKind.i64 x 7 = (k : Int) ∧ 2 ≤ k ∧ k ≤ 9 := by
  have h2 : (BitVec.ofInt 64 7).toNat = 7 := by decide
  have e : bits BinOp.and IntKind.i64 x 7 = IntKind.i64.wrap ((BitVec.ofInt 64 x &&& BitVec.ofInt 64 7).toNat : Int) := rfl
  have hle : (BitVec.ofInt 64 x).toNat &&& 7 ≤ 7 := Nat.and_le_right
  rw [BitVec.toNat_and, h2] at e
  generalize (BitVec.ofInt 64 x).toNat &&& 7 = m at hle e
  rw [wrapI (by omega) (by omega)] at e
  exact ⟨2 + m, by rw [e]; omega, by omega, by omega⟩
theorem CallsAt.below {w w' : World} {v : Value} {l : List Call} (h : CallsAt w v l) (b : Below w.heap.size w w') : CallsAt w' v l := by
  obtain ⟨p, cap, rfl, ha⟩ := h
  refine ⟨p, cap, rfl, fun i x hx => ?_⟩
  obtain ⟨k, o, rfl, hk, hc⟩ := ha i x hx
  exact ⟨k, o, rfl, Nat.lt_of_lt_of_le hk b.size, fun j u hu => (b.cell (p := ⟨k, o + i * 5 + j, none⟩) hk).trans (hc j u hu)⟩
theorem prun_len (r : Rules) (l : List Call) (p : PC) : (PC.run r p l).out.length = p.out.length + l.length := by
  induction l generalizing p with
  | nil => rfl
  | cons k l ih =>
    have := ih (p.step r k)
    have e : (p.step r k).out.length = p.out.length + 1 := by simp [PC.step]
    rw [List.length_cons]
    show (PC.run r (p.step r k) l).out.length = _
    omega
/-- k buckets of a period, with a rest left off. -/
theorem buck_k {b less tim trip bound : Int} {k : Nat} (h2 : 2 ≤ k) (h9 : k ≤ 9) (b0 : 0 < b) (b1 : b ≤ 62500000000000) (l0 : 0 ≤ less) (l1 : less < b) : Buck (winT ((k : Int) * b - less) b tim trip bound) k := by
  have e : ((k : Int) - 1) * b = (k : Int) * b - b := by rw [Int.sub_mul, Int.one_mul]
  have m1 : (k : Int) * b ≤ 9 * b := Int.mul_le_mul_of_nonneg_right (by omega) (by omega)
  have m2 : 2 * b ≤ (k : Int) * b := Int.mul_le_mul_of_nonneg_right (by omega) (by omega)
  exact ⟨by show 0 < (k : Int) * b - less; omega, b0, by show (k : Int) * b - less + b ≤ _; omega, by omega, by omega, by show ((k : Int) - 1) * b < (k : Int) * b - less; omega, by show (k : Int) * b - less ≤ (k : Int) * b; omega⟩
theorem prod_k {b : Int} {k : Nat} (h2 : 2 ≤ k) (h9 : k ≤ 9) (b0 : 0 < b) (b1 : b ≤ 62500000000000) : 0 ≤ (k : Int) * b ∧ (k : Int) * b ≤ 562500000000000 := by
  have m1 : (k : Int) * b ≤ 9 * b := Int.mul_le_mul_of_nonneg_right (by omega) (by omega)
  have m2 : 2 * b ≤ (k : Int) * b := Int.mul_le_mul_of_nonneg_right (by omega) (by omega)
  omega

end Go.Proofs.Ytcjklacfoldaoaa
