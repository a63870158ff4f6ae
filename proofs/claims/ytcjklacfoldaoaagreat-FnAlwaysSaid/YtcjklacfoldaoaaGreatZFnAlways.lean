import Derived.Test.YtcjklacfoldaoaaGreatPartZ
import Derived.Test.YtcjklacfoldaoaaGreatRows
/- The law FnAlways as a contract: it is true. Conditions: the calls can be read, the rules' numbers are in their types' ranges. -/
namespace Go.Proofs.YtcjklacfoldaoaaGreat
open Go.RowKit
attribute [local go_sem ↓] Go.wp_at_zero Go.wp_at_succ

/-- A breaker that trips at once, and the law's own account of it. -/
structure Alw (q : SC) (i : Nat) (f : Bool) (op : Int) : Prop where
  off : f = false → q.s.state = 0 ∧ q.s.timed = false ∧ q.s.cnt.r = i
  on : f = true → q.now < op → q.s.state = 2 ∧ q.s.timed = true ∧ q.s.fin = op
  lo : -1000000000000000 ≤ q.now
  hi : q.now ≤ 1000000000000000 + 2000000000000000 * i
def SC.tell (r : Rules) (q : SC) (k : Call) : Told := { q.told r k with cnt := (q.sb r k).cnt }
theorem alw_refused {r : Rules} {q : SC} {i : Nat} {op : Int} {k : Call} (h : Alw q i true op) (w0 : 0 ≤ k.wait) (hn : q.now + k.wait < op) : (q.tell r k).ran = false ∧ (q.tell r k).err = -1 ∧ (q.step r k).now = q.now + k.wait ∧ (q.step r k).s.state = 2 ∧ (q.step r k).s.timed = true ∧ (q.step r k).s.fin = op := by
  obtain ⟨h1, h2, h3⟩ := h.on rfl (by omega)
  have el : (q.look r k).state = 2 ∧ (q.look r k).timed = true ∧ (q.look r k).fin = op := by
    unfold SC.look SB.look
    rw [if_neg (by rw [h2]; simp), if_pos (by omega)]
    exact ⟨h1, h2, h3⟩
  have ec : (q.look r k).allowCode r = 1 := by unfold SB.allowCode; rw [if_pos el.1]
  have e0 : ¬ (q.look r k).allowCode r = 0 := by rw [ec]; decide
  have es : q.sb r k = q.look r k := by unfold SC.sb; rw [if_neg e0]; unfold SB.allow1; rw [if_neg e0]
  refine ⟨?_, ?_, ?_, ?_, ?_, ?_⟩
  · show (q.told r k).ran = false
    unfold SC.told; rw [if_neg e0]
  · show (q.told r k).err = -1
    unfold SC.told; rw [if_neg e0, ec]
  · show q.now' r k = _
    unfold SC.now'; rw [if_neg e0]
  · show (q.sb r k).state = 2
    rw [es]; exact el.1
  · show (q.sb r k).timed = true
    rw [es]; exact el.2.1
  · show (q.sb r k).fin = op
    rw [es]; exact el.2.2
theorem alw_now (r : Rules) (q : SC) (k : Call) : (q.step r k).now = if (q.tell r k).ran = true then q.now + k.wait + k.long else q.now + k.wait := by
  show q.now' r k = if (q.told r k).ran = true then _ else _
  unfold SC.now' SC.told
  by_cases e : (q.look r k).allowCode r = 0
  · simp only [if_pos e]
    rw [if_pos (by split <;> rfl)]
  · simp only [if_neg e]
    rfl
theorem alw_went {r : Rules} {q : SC} {i : Nat} {op : Int} {k : Call} (ht : r.trip = 4) (ho : r.timeout = 1000000000000000) (h : Alw q i false op) (hi : i ≤ 2000) :
    (q.tell r k).ran = true ∧ ((q.tell r k).cnt = Cnt.zero ∧ (q.step r k).s.state = 2 ∧ (q.step r k).s.timed = true ∧ (q.step r k).s.fin = (q.step r k).now + 1000000000000000 ∨
      (q.tell r k).cnt.r = (i : Int) + 1 ∧ (q.step r k).s.state = 0 ∧ (q.step r k).s.timed = false ∧ (q.step r k).s.cnt.r = (i : Int) + 1) := by
  obtain ⟨h1, h2, h3⟩ := h.off rfl
  have e1 : ∀ n, q.s.look r n = q.s := by intro n; unfold SB.look; rw [if_pos h2]
  have hl : q.look r k = q.s := e1 _
  have e2 : q.s.allowCode r = 0 := by unfold SB.allowCode; rw [if_neg (by rw [h1]; decide), if_neg (by rw [h1]; omega)]
  have e3 : q.s.allow1 r = { q.s with cnt := { q.s.cnt with r := w32 (q.s.cnt.r + 1) } } := by unfold SB.allow1; rw [if_pos e2]
  have esb : q.sb r k = q.went r k := by unfold SC.sb; rw [hl, if_pos e2]
  have hw : w32 (q.s.cnt.r + 1) = (i : Int) + 1 := by rw [h3]; unfold w32; omega
  have en : (q.step r k).now = q.now + k.wait + k.long := by show q.now' r k = _; unfold SC.now'; rw [hl, if_pos e2]
  have key : (q.went r k).cnt = Cnt.zero ∧ (q.went r k).state = 2 ∧ (q.went r k).timed = true ∧ (q.went r k).fin = q.now + k.wait + k.long + 1000000000000000 ∨ (q.went r k).state = 0 ∧ (q.went r k).timed = false ∧ (q.went r k).cnt.r = (i : Int) + 1 := by
    have e4 : ∀ n, (q.s.allow1 r).look r n = q.s.allow1 r := by intro n; rw [e3]; unfold SB.look; rw [if_pos h2]
    unfold SC.went
    rw [hl]
    unfold SB.done
    rw [e4, if_neg (by simp)]
    unfold SB.done1
    rw [e3]
    have trip : ∀ c, tripB r c = true := by intro c; unfold tripB; rw [ht]; rfl
    split
    · exact .inr ⟨h1, h2, hw⟩
    · split
      · rw [if_neg (fun x => by have := x.1; rw [h1] at this; cases this)]
        exact .inr ⟨h1, h2, hw⟩
      · rw [if_pos (.inr ⟨h1, trip _⟩)]
        refine .inl ⟨rfl, rfl, rfl, ?_⟩
        unfold SB.set SB.clear
        dsimp only
        rw [if_neg (by decide), if_pos rfl, if_neg (by rw [ho]; decide), ho]
  refine ⟨?_, ?_⟩
  · show (q.told r k).ran = true
    unfold SC.told
    rw [hl, if_pos e2]
    split <;> rfl
  · show (q.sb r k).cnt = Cnt.zero ∧ (q.sb r k).state = 2 ∧ (q.sb r k).timed = true ∧ (q.sb r k).fin = (q.step r k).now + 1000000000000000 ∨ (q.sb r k).cnt.r = (i : Int) + 1 ∧ (q.sb r k).state = 0 ∧ (q.sb r k).timed = false ∧ (q.sb r k).cnt.r = (i : Int) + 1
    rw [esb, en]
    rcases key with ⟨a, b, c, d⟩ | ⟨a, b, c⟩
    · exact .inl ⟨a, b, c, d⟩
    · exact .inr ⟨c, a, b, c⟩
theorem crun_out (r : Rules) (l : List Call) (q : SC) : ∃ x, (SC.run r q l).out = q.out ++ x := by
  induction l generalizing q with
  | nil => exact ⟨[], by simp [SC.run]⟩
  | cons k l ih =>
    obtain ⟨x, hx⟩ := ih (q.step r k)
    refine ⟨q.tell r k :: x, ?_⟩
    show (SC.run r (q.step r k) l).out = _
    rw [hx]
    show (q.out ++ [q.tell r k]) ++ x = _
    simp
/-- What the round at i tells. -/
theorem crun_tell {r : Rules} {l : List Call} {q q0 : SC} {i : Nat} {k : Call} (hk : l[i]? = some k) (ho : q.out.length = i) (hr : SC.run r q (l.drop i) = q0) : q0.out[i]? = some (q.tell r k) ∧ SC.run r (q.step r k) (l.drop (i + 1)) = q0 ∧ (q.step r k).out.length = i + 1 := by
  rw [SC.run_drop r q hk] at hr
  obtain ⟨x, hx⟩ := crun_out r (l.drop (i + 1)) (q.step r k)
  rw [hr] at hx
  refine ⟨?_, hr, by show (q.out ++ [_]).length = _; simp [ho]⟩
  rw [hx]
  show ((q.out ++ [q.tell r k]) ++ x)[i]? = _
  rw [List.getElem?_append_left (by simp; omega), List.getElem?_append_right (by omega)]
  simp [ho]
theorem Alw.stay {r : Rules} {q : SC} {i : Nat} {op : Int} {k : Call} (h : Alw q i true op) (w0 : 0 ≤ k.wait) (w1 : k.wait ≤ 1000000000000000) (l0 : 0 ≤ k.long) (l1 : k.long ≤ 1000000000000000) : Alw (q.step r k) (i + 1) true op := by
  have hn := alw_now r q k
  have hlo := h.lo
  have hhi := h.hi
  have hb : q.now + k.wait ≤ (q.step r k).now ∧ (q.step r k).now ≤ q.now + k.wait + k.long := by rw [hn]; split <;> omega
  refine ⟨fun x => (by cases x), fun _ hlt => ?_, by omega, by omega⟩
  obtain ⟨_, _, _, a⟩ := alw_refused (r := r) h w0 (by omega)
  exact a

set_option maxRecDepth 100000 in
set_option maxHeartbeats 4000000 in
theorem FnAlways_any (r : Rules) (start : Int) (va : Value) (l : List Call) (w : World) (rok : r.Ok) (m0 : 0 ≤ r.most) (m1 : r.most < 4294967296) (ha : CallsAt w va l) :
    Calls Tryz.prog 3 #[rulesV r, .int .i64 start, va] w fun e w' => e = .returned (.bool true) ∧ Below w.heap.size w w' := by
  have HAT := Lib.hid ha
  obtain ⟨pa, cap, rfl, _⟩ := ha
  have RO := Lib.hid (show Rules.Ok { r with trip := 4, timeout := 1000000000000000, interval := 0 } from ⟨rok.good0, rok.good1, rok.out0, rok.out1⟩)
  clear rok
  unfold rulesV
  by_cases hf : r.name.size ≤ 2147483647
  · by_cases hn : l.length ≤ 2147483647
    · have hnz : (l.length : Int) ≤ 2147483647 := by omega
      cases hA : areCalls { r with trip := 4, timeout := 1000000000000000, interval := 0 } start l with
      | false =>
        have AA := Lib.hid hA
        clear hA
        go_enter Tryz.func3, Tryz.ntmps3
        go_wp2_with fail
        refine (fits_yes r _ hf).mono ?_
        rintro e w2 ⟨rfl, hb2⟩
        have B2 := Lib.hid (((Below.refl _ _).alloc (Nat.le_refl _) _).trans (hb2.mono (by simp)) : Below w.heap.size w w2)
        have R2 := Lib.hid ((hb2.block w.heap.size (by simp)).trans (heap_alloc_new w (Obj.cells (rulesArr r) 24)))
        clear hb2
        have c2 : ∀ i, w2.cell? ⟨w.heap.size, i, none⟩ = #[.string r.name, .int .u32 r.most, .int .i64 r.interval, .int .i64 r.bucket, .int .i64 r.timeout, .int .i64 r.trip, .int .u32 r.bound, .bool r.hasGood, .int .u8 r.good, .bool r.hasOut, .int .u8 r.out][i]? := blk_cell R2.out
        have z2 := size_of_heap R2.out
        have f2 : ∀ j, w2.frozen? ⟨w.heap.size, j, none⟩ = false := blk_free R2.out
        go_upto_region 4 with fail
        have B3 := Lib.hid (((B2.out.setCell (p := ⟨w.heap.size, 5, none⟩) (Nat.le_refl _) (.int .i64 4)).setCell (p := ⟨w.heap.size, 4, none⟩) (Nat.le_refl _) (.int .i64 1000000000000000)).setCell (p := ⟨w.heap.size, 2, none⟩) (Nat.le_refl _) (.int .i64 0))
        have R3 := Lib.hid (show (((w2.setCell ⟨w.heap.size, 5, none⟩ (.int .i64 4)).setCell ⟨w.heap.size, 4, none⟩ (.int .i64 1000000000000000)).setCell ⟨w.heap.size, 2, none⟩ (.int .i64 0)).heap[w.heap.size]? = some (Obj.cells (rulesArr { r with trip := 4, timeout := 1000000000000000, interval := 0 }) 24 (0, 0)) from (heap_set_same (heap_set_same (heap_set_same R2.out))).trans (by simp [rulesArr]))
        clear c2 z2 f2
        generalize (((w2.setCell ⟨w.heap.size, 5, none⟩ (.int .i64 4)).setCell ⟨w.heap.size, 4, none⟩ (.int .i64 1000000000000000)).setCell ⟨w.heap.size, 2, none⟩ (.int .i64 0)) = w3 at *
        have c3 : ∀ j, w3.cell? ⟨w.heap.size, j, none⟩ = #[.string r.name, .int .u32 r.most, .int .i64 0, .int .i64 r.bucket, .int .i64 1000000000000000, .int .i64 4, .int .u32 r.bound, .bool r.hasGood, .int .u8 r.good, .bool r.hasOut, .int .u8 r.out][j]? := blk_cell R3.out
        have z3 := size_of_heap R3.out
        go_wp2_with fail
        refine (areCalls_any { r with trip := 4, timeout := 1000000000000000, interval := 0 } start _ l _ RO.out m0 m1 (HAT.out.below B3.out)).mono ?_
        rintro e w4 ⟨rfl, hb4⟩
        rw [AA.out]
        have B4 := Lib.hid (B3.out.trans (hb4.mono B3.out.size))
        have R4 := Lib.hid ((hb4.block w.heap.size (size_of_heap R3.out)).trans R3.out)
        clear hb4 c3 z3
        have c4 : ∀ j, w4.cell? ⟨w.heap.size, j, none⟩ = #[.string r.name, .int .u32 r.most, .int .i64 0, .int .i64 r.bucket, .int .i64 1000000000000000, .int .i64 4, .int .u32 r.bound, .bool r.hasGood, .int .u8 r.good, .bool r.hasOut, .int .u8 r.out][j]? := blk_cell R4.out
        have z4 := size_of_heap R4.out
        go_wp2_with fail
        refine (brWorks_any _).mono ?_
        rintro e wz ⟨rfl, hbz⟩
        go_wp2_with fail
        go_ret
        exact ⟨rfl, B4.out.trans (hbz.mono B4.out.size)⟩
      | true =>
        have AA := Lib.hid hA
        have hq := csaid RO.out hA m0 m1
        obtain ⟨q, hqq⟩ : ∃ q, q = SC.run { r with trip := 4, timeout := 1000000000000000, interval := 0 } (SC.start { r with trip := 4, timeout := 1000000000000000, interval := 0 } start) l := ⟨_, rfl⟩
        rw [← hqq] at hq
        have SA := Lib.hid hq
        have HQ := Lib.hid hqq
        clear hA hq hqq
        go_enter Tryz.func3, Tryz.ntmps3
        go_wp2_with fail
        refine (fits_yes r _ hf).mono ?_
        rintro e w2 ⟨rfl, hb2⟩
        have B2 := Lib.hid (((Below.refl _ _).alloc (Nat.le_refl _) _).trans (hb2.mono (by simp)) : Below w.heap.size w w2)
        have R2 := Lib.hid ((hb2.block w.heap.size (by simp)).trans (heap_alloc_new w (Obj.cells (rulesArr r) 24)))
        clear hb2
        have c2 : ∀ i, w2.cell? ⟨w.heap.size, i, none⟩ = #[.string r.name, .int .u32 r.most, .int .i64 r.interval, .int .i64 r.bucket, .int .i64 r.timeout, .int .i64 r.trip, .int .u32 r.bound, .bool r.hasGood, .int .u8 r.good, .bool r.hasOut, .int .u8 r.out][i]? := blk_cell R2.out
        have z2 := size_of_heap R2.out
        have f2 : ∀ j, w2.frozen? ⟨w.heap.size, j, none⟩ = false := blk_free R2.out
        go_upto_region 4 with fail
        have B3 := Lib.hid (((B2.out.setCell (p := ⟨w.heap.size, 5, none⟩) (Nat.le_refl _) (.int .i64 4)).setCell (p := ⟨w.heap.size, 4, none⟩) (Nat.le_refl _) (.int .i64 1000000000000000)).setCell (p := ⟨w.heap.size, 2, none⟩) (Nat.le_refl _) (.int .i64 0))
        have R3 := Lib.hid (show (((w2.setCell ⟨w.heap.size, 5, none⟩ (.int .i64 4)).setCell ⟨w.heap.size, 4, none⟩ (.int .i64 1000000000000000)).setCell ⟨w.heap.size, 2, none⟩ (.int .i64 0)).heap[w.heap.size]? = some (Obj.cells (rulesArr { r with trip := 4, timeout := 1000000000000000, interval := 0 }) 24 (0, 0)) from (heap_set_same (heap_set_same (heap_set_same R2.out))).trans (by simp [rulesArr]))
        clear c2 z2 f2
        generalize (((w2.setCell ⟨w.heap.size, 5, none⟩ (.int .i64 4)).setCell ⟨w.heap.size, 4, none⟩ (.int .i64 1000000000000000)).setCell ⟨w.heap.size, 2, none⟩ (.int .i64 0)) = w3 at *
        have c3 : ∀ j, w3.cell? ⟨w.heap.size, j, none⟩ = #[.string r.name, .int .u32 r.most, .int .i64 0, .int .i64 r.bucket, .int .i64 1000000000000000, .int .i64 4, .int .u32 r.bound, .bool r.hasGood, .int .u8 r.good, .bool r.hasOut, .int .u8 r.out][j]? := blk_cell R3.out
        have z3 := size_of_heap R3.out
        go_wp2_with fail
        refine (areCalls_any { r with trip := 4, timeout := 1000000000000000, interval := 0 } start _ l _ RO.out m0 m1 (HAT.out.below B3.out)).mono ?_
        rintro e w4 ⟨rfl, hb4⟩
        rw [AA.out]
        have B4 := Lib.hid (B3.out.trans (hb4.mono B3.out.size))
        have R4 := Lib.hid ((hb4.block w.heap.size (size_of_heap R3.out)).trans R3.out)
        clear hb4 c3 z3
        have c4 : ∀ j, w4.cell? ⟨w.heap.size, j, none⟩ = #[.string r.name, .int .u32 r.most, .int .i64 0, .int .i64 r.bucket, .int .i64 1000000000000000, .int .i64 4, .int .u32 r.bound, .bool r.hasGood, .int .u8 r.good, .bool r.hasOut, .int .u8 r.out][j]? := blk_cell R4.out
        have z4 := size_of_heap R4.out
        go_wp2_with fail
        refine (SA.out.play _ _ (HAT.out.below B4.out)).mono ?_
        rintro e w5 ⟨vo, vc, rfl, ho, hc, hb5⟩
        have B5 := Lib.hid (B4.out.trans (hb5.mono B4.out.size))
        have R5 := Lib.hid ((hb5.block w.heap.size (size_of_heap R4.out)).trans R4.out)
        clear hb5 c4 z4
        have c5 : ∀ j, w5.cell? ⟨w.heap.size, j, none⟩ = #[.string r.name, .int .u32 r.most, .int .i64 0, .int .i64 r.bucket, .int .i64 1000000000000000, .int .i64 4, .int .u32 r.bound, .bool r.hasGood, .int .u8 r.good, .bool r.hasOut, .int .u8 r.out][j]? := blk_cell R5.out
        have z5 := size_of_heap R5.out
        have HO := Lib.hid ho
        clear ho hc
        have TW := Lib.hid (fun (W : World) (hW : CallsAt W (Value.slice pa l.length cap) l) => calls_any { r with trip := 4, timeout := 1000000000000000, interval := 0 } start _ l W (mild_of (areCalls_parts AA.out).1 m0 m1) RO.out (isTime_parts (areCalls_parts AA.out).2.1).1 (isTime_parts (areCalls_parts AA.out).2.1).2 hW SA.out.short (areCalls_parts AA.out).2.2.2.1)
        rw [← HQ.out, SA.out.fin] at TW
        go_wp2_with fail
        refine (TW.out _ (HAT.out.below B5.out)).mono ?_
        rintro e w6 ⟨vo2, vc2, rfl, hb6, ho2, hc2⟩
        have HO1 := Lib.hid (own_below HO.out hb6)
        have HO2 := Lib.hid ho2
        clear ho2 hc2 HO
        have B6 := Lib.hid (B5.out.trans (hb6.mono B5.out.size))
        clear hb6 c5 z5 TW
        obtain ⟨ba, bbase⟩ : ∃ a, w6.ownsRow a 40 10 vo q.out.length (toldFlat q.out) := ⟨_, HO1.out⟩
        obtain ⟨bb, bbase2⟩ : ∃ a, w6.ownsRow a 40 10 vo2 q.out.length (toldFlat q.out) := ⟨_, HO2.out⟩
        clear HO1 HO2
        have HO1 := Lib.hid bbase
        have HO2 := Lib.hid bbase2
        obtain ⟨po, ko, rfl⟩ := row_len bbase
        obtain ⟨po2, ko2, rfl⟩ := row_len bbase2
        clear bbase bbase2
        have elen : (q.out.length : Int) = (l.length : Int) := by rw [SA.out.len]
        have hsh := SA.out.short
        have hol := SA.out.len
        have HA6 := Lib.hid (HAT.out.below B6.out)
        go_wp2_with fail
        go_loopg [7, 8, 9, 56] l.length (fun g s7 s8 s9 s56 wx => ∃ (i : Nat) (p : SC) (f : Bool) (op : Int), g = l.length - i ∧ i ≤ l.length ∧ s56 = .int .i64 (i : Int) ∧ s7 = .int .i64 p.now ∧ s8 = .int .i64 op ∧ s9 = .bool f ∧ Hid (Below w6.heap.size w6 wx ∧ Alw p i f op ∧ SC.run { r with trip := 4, timeout := 1000000000000000, interval := 0 } p (l.drop i) = q ∧ p.out.length = i))
        case atStart =>
          have h2 := (isTime_parts (areCalls_parts AA.out).2.1)
          exact ⟨0, SC.start { r with trip := 4, timeout := 1000000000000000, interval := 0 } start, false, 0, rfl, Nat.zero_le _, rfl, rfl, rfl, rfl, Lib.hid ⟨Below.refl _ _, ⟨fun _ => ⟨rfl, by show (SB.clear { r with trip := 4, timeout := 1000000000000000, interval := 0 } start SB.zero).timed = false; unfold SB.clear SB.zero; dsimp only; rw [if_pos rfl]; rfl, rfl⟩, fun x => (by cases x), h2.1, by simpa [SC.start] using h2.2⟩, HQ.out.symm, rfl⟩⟩
        case round =>
          obtain ⟨i, p, f, op, rfl, hi, rfl, rfl, rfl, rfl, hh⟩ := hrel
          by_cases hin : i < l.length
          · have hiz : (i : Int) < (l.length : Int) := by omega
            have hiz2 : ¬ ((q.out.length : Int) ≤ (i : Int)) := by omega
            obtain ⟨a, hla⟩ : ∃ a, l[i]? = some a := ⟨_, List.getElem?_eq_getElem hin⟩
            obtain ⟨_, _, hpa, hacts⟩ := HA6.out
            cases hpa
            obtain ⟨ab, ao, rfl, hblk, hcell⟩ := hacts i a hla
            obtain ⟨hbel, hA, hR, hL⟩ := hh.out
            have hbc := fun j u hj => (hbel.cell (p := ⟨ab, ao + i * 5 + j, none⟩) hblk).trans (hcell j u hj)
            have k0 : wr.cell? ⟨ab, ao + i * 5, none⟩ = some (.int .i64 a.wait) := hbc 0 _ rfl
            have k1 := hbc 1 _ rfl
            have k2 := hbc 2 _ rfl
            have k3 := hbc 3 _ rfl
            have k4 := hbc 4 _ rfl
            obtain ⟨w0, w1, l0, l1, e0, e1⟩ := callOk_parts (calls_get (areCalls_parts AA.out).2.2.2.1 hla)
            obtain ⟨hT, hR2, hL2⟩ := crun_tell hla hL hR
            have HR2 := Lib.hid hR2
            have HH := Lib.hid hA
            have HB := Lib.hid hbel
            have nlo := hA.lo
            have nhi := hA.hi
            obtain ⟨x, hx⟩ : ∃ x, x = p.tell { r with trip := 4, timeout := 1000000000000000, interval := 0 } a := ⟨_, rfl⟩
            rw [← hx] at hT
            have HX := Lib.hid hx
            have HT := Lib.hid hT
            clear hbc hcell hla hR hR2 hh hA hbel hblk hacts hx hT
            go_upto_region 13 with fail
            have A1 := Lib.hid (heap_alloc_new wr (Obj.cells (callArr a) 36))
            unfold callArr at A1
            have BX := Lib.hid (HB.out.alloc (by exact HB.out.size) (Obj.cells #[Value.int IntKind.i64 a.wait, Value.int IntKind.i64 a.long, Value.int IntKind.i64 a.val, Value.int IntKind.i64 a.err, Value.bool a.pan] 36))
            obtain ⟨ka, hka⟩ : ∃ k, k = wr.heap.size := ⟨_, rfl⟩
            rw [← hka] at A1
            rw [← hka]
            clear hka k0 k1 k2 k3 k4 HB
            generalize (wr.alloc (Obj.cells #[Value.int IntKind.i64 a.wait, Value.int IntKind.i64 a.long, Value.int IntKind.i64 a.val, Value.int IntKind.i64 a.err, Value.bool a.pan] 36)) = X1 at *
            have d0 := blk_cell A1.out
            have zk := size_of_heap A1.out
            obtain ⟨g1, rfl, c1⟩ := row_part (own_below HO1.out BX.out) (by omega)
            obtain ⟨g2, rfl, c2⟩ := row_part (own_below HO2.out BX.out) (by omega)
            have a0 : X1.cell? ⟨g1, i * 10, none⟩ = some (.bool x.ran) := c1 _ _ ((toldFlat_get HT.out (j := 0) (by omega)).trans rfl)
            have a2 : X1.cell? ⟨g1, i * 10 + 2, none⟩ = some (.int .i64 x.err) := c1 _ _ ((toldFlat_get HT.out (j := 2) (by omega)).trans rfl)
            have b0 : X1.cell? ⟨g2, i * 10, none⟩ = some (.bool x.ran) := c2 _ _ ((toldFlat_get HT.out (j := 0) (by omega)).trans rfl)
            have b4 : X1.cell? ⟨g2, i * 10 + 4, none⟩ = some (.int .u32 x.cnt.r) := c2 _ _ ((toldFlat_get HT.out (j := 4) (by omega)).trans rfl)
            have b5 : X1.cell? ⟨g2, i * 10 + 5, none⟩ = some (.int .u32 x.cnt.s) := c2 _ _ ((toldFlat_get HT.out (j := 5) (by omega)).trans rfl)
            have b6 : X1.cell? ⟨g2, i * 10 + 6, none⟩ = some (.int .u32 x.cnt.f) := c2 _ _ ((toldFlat_get HT.out (j := 6) (by omega)).trans rfl)
            have b7 : X1.cell? ⟨g2, i * 10 + 7, none⟩ = some (.int .u32 x.cnt.x) := c2 _ _ ((toldFlat_get HT.out (j := 7) (by omega)).trans rfl)
            have b8 : X1.cell? ⟨g2, i * 10 + 8, none⟩ = some (.int .u32 x.cnt.g) := c2 _ _ ((toldFlat_get HT.out (j := 8) (by omega)).trans rfl)
            have b9 : X1.cell? ⟨g2, i * 10 + 9, none⟩ = some (.int .u32 x.cnt.h) := c2 _ _ ((toldFlat_get HT.out (j := 9) (by omega)).trans rfl)
            have n2 : p.now + a.wait + a.long ≤ 3000000000000000000 := by omega
            have n3 : -3000000000000000000 ≤ p.now + a.wait := by omega
            have n4 : p.now + a.wait ≤ 3000000000000000000 := by omega
            clear c1 c2 A1
            cases f with
            | true =>
              have HS := Lib.hid (HH.out.stay (r := { r with trip := 4, timeout := 1000000000000000, interval := 0 }) w0 w1 l0 l1)
              by_cases hlt : p.now + a.wait < op
              · obtain ⟨hr, he, hn, _⟩ := alw_refused (r := { r with trip := 4, timeout := 1000000000000000, interval := 0 }) HH.out w0 hlt
                rw [← HX.out] at hr he
                have HN := Lib.hid hn
                rw [hr] at a0 b0
                rw [he] at a2
                clear hr he hn
                go_wp2_with fail
                go_roundg (l.length - (i + 1))
                case measure => omega
                case rel => exact ⟨i + 1, p.step { r with trip := 4, timeout := 1000000000000000, interval := 0 } a, true, op, rfl, hin, by first | rfl | simp, by rw [HN.out], rfl, rfl, Lib.hid ⟨BX.out, HS.out, HR2.out, hL2⟩⟩
              · have hn := alw_now { r with trip := 4, timeout := 1000000000000000, interval := 0 } p a
                rw [← HX.out] at hn
                have HN := Lib.hid hn
                clear hn
                cases hr : x.ran with
                | true =>
                  rw [hr] at HN a0 b0
                  clear hr
                  go_wp2_with fail
                  go_roundg (l.length - (i + 1))
                  case measure => omega
                  case rel => exact ⟨i + 1, p.step { r with trip := 4, timeout := 1000000000000000, interval := 0 } a, true, op, rfl, hin, by first | rfl | simp, by rw [HN.out]; rfl, rfl, rfl, Lib.hid ⟨BX.out, HS.out, HR2.out, hL2⟩⟩
                | false =>
                  rw [hr] at HN a0 b0
                  clear hr
                  go_wp2_with fail
                  go_roundg (l.length - (i + 1))
                  case measure => omega
                  case rel => exact ⟨i + 1, p.step { r with trip := 4, timeout := 1000000000000000, interval := 0 } a, true, op, rfl, hin, by first | rfl | simp, by rw [HN.out]; rfl, rfl, rfl, Lib.hid ⟨BX.out, HS.out, HR2.out, hL2⟩⟩
            | false =>
              obtain ⟨hr, hcase⟩ := alw_went (r := { r with trip := 4, timeout := 1000000000000000, interval := 0 }) (k := a) rfl rfl HH.out (by omega)
              have hn := alw_now { r with trip := 4, timeout := 1000000000000000, interval := 0 } p a
              rw [← HX.out] at hn hr hcase
              rw [hr] at a0 b0
              rw [if_pos hr] at hn
              have HN := Lib.hid hn
              clear hn hr
              rcases hcase with ⟨hz, s1, s2, s3⟩ | ⟨hz, s1, s2, s3⟩
              · rw [hz] at b4 b5 b6 b7 b8 b9
                have HS := Lib.hid (show Alw (p.step { r with trip := 4, timeout := 1000000000000000, interval := 0 } a) (i + 1) true (p.now + a.wait + a.long + 1000000000000000) from ⟨fun x => (by cases x), fun _ _ => ⟨s1, s2, by rw [s3, HN.out]⟩, by rw [HN.out]; omega, by rw [HN.out]; omega⟩)
                unfold Cnt.zero at b4 b5 b6 b7 b8 b9
                dsimp only at b4 b5 b6 b7 b8 b9
                clear s1 s2 s3 hz
                go_wp2_with fail
                go_roundg (l.length - (i + 1))
                case measure => omega
                case rel => exact ⟨i + 1, p.step { r with trip := 4, timeout := 1000000000000000, interval := 0 } a, true, _, rfl, hin, by first | rfl | simp, by rw [HN.out], rfl, rfl, Lib.hid ⟨BX.out, HS.out, HR2.out, hL2⟩⟩
              · have HS := Lib.hid (show Alw (p.step { r with trip := 4, timeout := 1000000000000000, interval := 0 } a) (i + 1) false op from ⟨fun _ => ⟨s1, s2, by rw [s3]; omega⟩, fun x => by (cases x), by rw [HN.out]; omega, by rw [HN.out]; omega⟩)
                have nz : ¬ (x.cnt.r = 0) := by omega
                clear s1 s2 s3 hz
                go_wp2_with fail
                go_roundg (l.length - (i + 1))
                case measure => omega
                case rel => exact ⟨i + 1, p.step { r with trip := 4, timeout := 1000000000000000, interval := 0 } a, false, op, rfl, hin, by first | rfl | simp, by rw [HN.out], rfl, rfl, Lib.hid ⟨BX.out, HS.out, HR2.out, hL2⟩⟩
          · have hiz : ¬ ((i : Int) < (l.length : Int)) := by omega
            have HB := Lib.hid (B6.out.trans (hh.out.1.mono B6.out.size))
            clear hh
            go_wp2_with fail
            refine (brWorks_any _).mono ?_
            rintro e wz ⟨rfl, hbz⟩
            go_wp2_with fail
            go_ret
            exact ⟨rfl, HB.out.trans (hbz.mono HB.out.size)⟩
    · have hnz : ¬ ((l.length : Int) ≤ 2147483647) := by omega
      go_enter Tryz.func3, Tryz.ntmps3
      go_wp2_with fail
      refine (fits_yes r _ hf).mono ?_
      rintro e w2 ⟨rfl, hb2⟩
      have B2 := Lib.hid (((Below.refl _ _).alloc (Nat.le_refl _) _).trans (hb2.mono (by simp)) : Below w.heap.size w w2)
      have R2 := Lib.hid ((hb2.block w.heap.size (by simp)).trans (heap_alloc_new w (Obj.cells (rulesArr r) 24)))
      clear hb2
      have c2 : ∀ i, w2.cell? ⟨w.heap.size, i, none⟩ = #[.string r.name, .int .u32 r.most, .int .i64 r.interval, .int .i64 r.bucket, .int .i64 r.timeout, .int .i64 r.trip, .int .u32 r.bound, .bool r.hasGood, .int .u8 r.good, .bool r.hasOut, .int .u8 r.out][i]? := blk_cell R2.out
      have z2 := size_of_heap R2.out
      go_wp2_with fail
      go_ret
      exact ⟨rfl, B2.out⟩
  · skip
    go_enter Tryz.func3, Tryz.ntmps3
    go_wp2_with fail
    refine (fits_no r _ hf).mono ?_
    rintro e w2 ⟨rfl, hb2⟩
    have B2 := Lib.hid (((Below.refl _ _).alloc (Nat.le_refl _) _).trans (hb2.mono (by simp)) : Below w.heap.size w w2)
    have R2 := Lib.hid ((hb2.block w.heap.size (by simp)).trans (heap_alloc_new w (Obj.cells (rulesArr r) 24)))
    clear hb2
    go_wp2_with fail
    go_ret
    exact ⟨rfl, B2.out⟩
theorem fnAlways_row (r : Rules) (start : Int) (va : Value) (l : List Call) (w : World) (h : RulesIn r) (_ : IntKind.i64.min ≤ start ∧ start ≤ IntKind.i64.max) (ha : CallsAt w va l) :
    Calls Tryz.prog 3 #[rulesV r, .int .i64 start, va] w fun e w' => e = .returned (.bool true) ∧ Below w.heap.size w w' := FnAlways_any r start va l w h.ok h.m0 h.m1 ha

end Go.Proofs.YtcjklacfoldaoaaGreat

/- The row of FnAlways: it is true whatever the input, and the input reads as it did. No condition. -/
namespace Go.Proofs.YtcjklacfoldaoaaGreat
open Go.ChangeShapes Go.WideShapes Go.ChangeAt Go.RowKit Go.Deep

theorem fnAlways_own : ownKnob Tryz.prog.godebug = none := by kernel_rfl
theorem fnAlways_laidOut : laidOutB Tryz.prog = true := by kernel_rfl

set_option maxRecDepth 100000 in
theorem fnAlways_lifted (os : Os) (started : os.Started) (H : Type) (enc : TypeId × Value → H) :
    ReturnsInHanded {} Tryz.checked os 3 .any (Rows.fnAlwaysSpec.pre6 enc Tryz.prog Tryz.f3 Rows.fnAlwaysRow.domain false) (Rows.fnAlwaysSpec.post enc Tryz.prog Tryz.f3 false true false false) := by
  refine returnsInHanded_of_change (C := Tryz.checked) fnAlways_own started (by kernel_rfl) Tryz.func3
    (ChangeSpec.witness6 (enc := enc) (C := Tryz.checked) false ⟨#[], #[.agg #[.string ⟨#[]⟩, .int .u32 0, .int .i64 0, .int .i64 0, .int .i64 0, .int .i64 0, .int .u32 0, .bool false, .int .u8 0, .bool false, .int .u8 0], .int .i64 0, .slice none 0 0], []⟩ 20 (by kernel_rfl) (by kernel_rfl) (by kernel_rfl) (by kernel_rfl)) ?_
  intro W base args ds gs before hval0 hW hcnd _
  have hval : ∀ (j : Nat) t v, Tryz.f3.params[j]? = some t → args[j]? = some v → Value.okWide Tryz.prog W .any base t v := hval0
  have hW' := hW
  obtain ⟨p, q, hA0, hV, rfl, hfz, hnd⟩ := hW
  have hA : DataW.TrodAll enc Tryz.prog W 0 (fun _ => true) true Tryz.f3.params.toList args.toList ds p := hA0
  rw [Tryz.params3] at hA hval
  obtain ⟨v0, vs0, d0, ds0, p0, q0, e0, rfl, rfl, h0, g0⟩ := trodAll_cons hA
  obtain ⟨v1, vs1, d1, ds1, p1, q1, e1, rfl, rfl, h1, g1⟩ := trodAll_cons g0
  obtain ⟨v2, vs2, d2, ds2, p2, q2, e2, rfl, rfl, h2, g2⟩ := trodAll_cons g1
  obtain ⟨rfl, rfl, rfl⟩ := trodAll_nil g2
  obtain ⟨rfl, rfl⟩ := trodVars_none hV
  subst e2
  subst e1
  have ea : args = #[v0, v1, v2] := by cases args; simp at e0; rw [e0]
  subst ea
  clear e0
  have h0k := h0
  have h1k := h1
  have h2k := h2
  obtain ⟨r0, rfl, w0⟩ := open_rules (hval 0 24 v0 rfl rfl) h0
  obtain ⟨a1, rfl, w1⟩ := open_num Tryz.underlying2 (hval 1 2 v1 rfl rfl) h1
  obtain ⟨l2, w2⟩ := open_calls (hval 2 25 v2 rfl rfl) h2
  clear hA0 hval0
  have hlt : ∀ x ∈ p0 ++ (p1 ++ (p2 ++ [])), x.block < W.heap.size := fun x hx => by
    have := hW'.lt x (by simpa using hx)
    simpa using this
  refine (fnAlways_row r0 a1 v2 l2 W w0 w1 w2).mono fun e W' ⟨he, bel⟩ => ?_
  subst he
  refine ⟨_, rfl, ?_⟩
  refine ⟨_, _, _, [], p0 ++ (p1 ++ (p2 ++ [])), [], hW', trodAll_mk1 (shut_bool Tryz.underlying4 true), ?_, rfl, bel.frame _, fun h => by cases h⟩
  exact ⟨p0, _, Below.trod fnAlways_laidOut (by kernel_rfl) (of_decide_eq_true (by kernel_rfl)) h0k bel (fun x hx => hlt x (by simp [hx])), ⟨p1, _, Below.trod fnAlways_laidOut (by kernel_rfl) (of_decide_eq_true (by kernel_rfl)) h1k bel (fun x hx => hlt x (by simp [hx])), ⟨p2, _, Below.trod fnAlways_laidOut (by kernel_rfl) (of_decide_eq_true (by kernel_rfl)) h2k bel (fun x hx => hlt x (by simp [hx])), rfl, rfl⟩, rfl⟩, rfl⟩

theorem fnAlways_holds : Rows.FnAlwaysSaid :=
  OpenClaim.holds_of_wide 3 Tryz.f3 rfl rfl rfl rfl rfl rfl rfl ⟨rfl, rfl, rfl, rfl, rfl⟩ rfl rfl rfl rfl rfl (by kernel_rfl) Tryz.func3 (by kernel_rfl)
    (of_decide_eq_true (by kernel_rfl)) (by unfold Func.isWrapper; first | (rw [if_pos (by decide +kernel)]; kernel_rfl) | (rw [if_neg (by decide +kernel)]; exact ⟨rfl, rfl⟩))
    (fun os started H enc _ => fnAlways_lifted os started H enc)

#print axioms fnAlways_holds
end Go.Proofs.YtcjklacfoldaoaaGreat
