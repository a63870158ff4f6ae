/- Contract of the thin package's execute, where the request does not panic. Conditions: the breaker and its bed lie in their blocks, the numbers are in their ranges. -/
import Derived.Test.YtcjklacfoldaoaaExecB
namespace Go.Proofs.Ytcjklacfoldaoaa
open Go.RowKit
attribute [local go_sem ↓] Go.wp_at_zero Go.wp_at_succ

set_option maxHeartbeats 400000 in
theorem codeErr_any (n : Int) (w : World) : Calls Try.prog 37 #[errV n] w fun e w' => e = .returned (.int .i64 0) ∧ w = w' := by
  by_cases h : n = 0
  · have e : errV n = codeV 0 := by unfold errV; rw [if_pos h]; rfl
    rw [e]; exact code_any 0 w (by omega) (by omega)
  · have e : errV n = .iface 128 (.int .i64 n) := by unfold errV; rw [if_neg h]
    have q := eq_failed_data
    rw [e]
    go_enter Try.func37, Try.ntmps37
    go_wp2
    go_ret
    exact ⟨rfl, rfl⟩

/-- What a call is told. -/
def execTold (c : CB) (now : Int) (k : Call) : Told := if (c.look now).beforeCode = 0 then (if k.pan then ⟨true, 0, 0, true, Cnt.zero⟩ else ⟨true, k.val, k.err, false, Cnt.zero⟩) else ⟨false, 0, -(c.look now).beforeCode, false, Cnt.zero⟩
def execErr (k : Call) : Int := if k.pan then 7 else k.err
def execNow (c : CB) (now : Int) (k : Call) : Int := if (c.look now).beforeCode = 0 then now + k.long else now
def execC (r : Rules) (c : CB) (now : Int) (k : Call) : CB := if (c.look now).beforeCode = 0 then (c.look now).before1.after r (c.look now).gen (c.look now).rc.age (execErr k) (now + k.long) else (c.look now).before1
def execChs (r : Rules) (c : CB) (now : Int) (k : Call) : List (Int × Int) := c.lookTold now ++ (if (c.look now).beforeCode = 0 then (c.look now).before1.afterTold r (c.look now).gen (c.look now).rc.age (execErr k) (now + k.long) else [])

def w3c (w : World) (L : Loc) (k : Call) : World := ((w.alloc (Obj.cells #[Value.pointer (some ⟨L.bd, 0, none⟩)] 72)).alloc (Obj.cells (callArr k) 57)).alloc (Obj.cells (toldArr Told.zero) 63)
theorem lay3 {w : World} {L : Loc} {cr : Nat} {r : Rules} {c : CB} {now : Int} {chs : List (Int × Int)} (k : Call) (h : Sys w L cr r c now chs) : Sys (w3c w L k) L cr r c now chs ∧ Lay (w3c w L k) L cr (w.heap.size + 1 + 1) w.heap.size (w.heap.size + 1) k Told.zero ∧ Mod [] w (w3c w L k) :=
  ⟨((h.alloc _).alloc _).alloc _, ⟨heap_alloc_at (by simp), heap_alloc_lt (heap_alloc_lt (heap_alloc_new w _)), heap_alloc_lt (heap_alloc_at (by simp)), h.sep (by omega), h.sep (Nat.le_refl _), h.sep (by omega)⟩, (((Mod.refl _ w).alloc _).alloc _).alloc _⟩
theorem EvoL.evo {L : Loc} {r : Rules} {w w2 w3 : World} {cr bt xb xc : Nat} {k : Call} {c2 : CB} {n2 : Int} {h2 : List (Int × Int)} {t2 : Told} (m : Mod [] w w2) (hb : w.heap.size ≤ bt) (e : EvoL L r w2 cr bt xb xc k w3 c2 n2 h2 t2) : Evo L r w cr w3 c2 n2 h2 := by
  obtain ⟨cr2, s2, l2, q2, m2⟩ := e
  refine ⟨cr2, s2, ?_, ?_⟩
  · have := m.size
    rcases q2 with q | q
    · exact .inl q
    · exact .inr (by omega)
  · refine (m.mono (S' := [L.cb, L.rc, L.bk, L.bd, cr]) (by simp)).trans_new m2 ?_
    intro i hi
    simp at hi ⊢
    rcases hi with h | h | h | h | h | h
    · exact .inl (.inl h)
    · exact .inl (.inr (.inl h))
    · exact .inl (.inr (.inr (.inl h)))
    · exact .inl (.inr (.inr (.inr (.inl h))))
    · exact .inl (.inr (.inr (.inr (.inr h))))
    · exact .inr (by omega)
/-- The told alone has been written. -/
theorem EvoL.told {L : Loc} {r : Rules} {w w1 w2 : World} {cr bt xb xc : Nat} {k : Call} {c1 : CB} {n1 : Int} {h1 : List (Int × Int)} {t1 t2 : Told} (e : EvoL L r w cr bt xb xc k w1 c1 n1 h1 t1) (m : Mod [bt] w1 w2) (ht : w2.heap[bt]? = some (.cells (toldArr t2) 63 (0, 0))) : EvoL L r w cr bt xb xc k w2 c1 n1 h1 t2 := by
  obtain ⟨cr1, s1, l1, q1, m1⟩ := e
  exact ⟨cr1, s1.told l1 m, l1.set m ht, q1, m1.trans (m.mono (by simp))⟩
theorem EvoL.at_ {L : Loc} {r : Rules} {w w1 : World} {cr bt xb xc : Nat} {k : Call} {c1 : CB} {n1 : Int} {h1 : List (Int × Int)} {t1 : Told} (e : EvoL L r w cr bt xb xc k w1 c1 n1 h1 t1) : w1.heap[bt]? = some (.cells (toldArr t1) 63 (0, 0)) := by
  obtain ⟨cr1, s1, l1, q1, m1⟩ := e
  exact l1.told

/-- The told is read and written back. -/
def told10 (w : World) (bt : Nat) (t : Told) : World := (((((((((w.setCell ⟨bt, 0, none⟩ (.bool t.ran)).setCell ⟨bt, 1, none⟩ (.int .i64 t.val)).setCell ⟨bt, 2, none⟩ (.int .i64 t.err)).setCell ⟨bt, 3, none⟩ (.bool t.pan)).setCell ⟨bt, 4, none⟩ (.int .u32 t.cnt.r)).setCell ⟨bt, 5, none⟩ (.int .u32 t.cnt.s)).setCell ⟨bt, 6, none⟩ (.int .u32 t.cnt.f)).setCell ⟨bt, 7, none⟩ (.int .u32 t.cnt.x)).setCell ⟨bt, 8, none⟩ (.int .u32 t.cnt.g)).setCell ⟨bt, 9, none⟩ (.int .u32 t.cnt.h)
theorem EvoL.ten {L : Loc} {r : Rules} {w w1 : World} {cr bt xb xc : Nat} {k : Call} {c1 : CB} {n1 : Int} {h1 : List (Int × Int)} {t : Told} (e : EvoL L r w cr bt xb xc k w1 c1 n1 h1 t) : EvoL L r w cr bt xb xc k (told10 w1 bt t) c1 n1 h1 t := by
  refine e.told (((((((((((Mod.refl [bt] w1).setCell _ _ (by simp)).setCell _ _ (by simp)).setCell _ _ (by simp)).setCell _ _ (by simp)).setCell _ _ (by simp)).setCell _ _ (by simp)).setCell _ _ (by simp)).setCell _ _ (by simp)).setCell _ _ (by simp)).setCell _ _ (by simp)) ?_
  refine (heap_set_same (heap_set_same (heap_set_same (heap_set_same (heap_set_same (heap_set_same (heap_set_same (heap_set_same (heap_set_same (heap_set_same e.at_)))))))))).trans ?_
  simp [toldArr]
set_option maxRecDepth 100000 in
theorem told_result {w : World} {bt : Nat} {t : Told} {tmps : Array Value} (ht : w.heap[bt]? = some (.cells (toldArr t) 63 (0, 0))) (h6 : tmps.getD 6 undef = .pointer (some ⟨bt, 0, none⟩)) : (results Try.f49 tmps).run Try.prog w = .ok (.agg (toldArr t)) w := by
  have c := blk_cell ht
  unfold toldArr at c
  have h6' : tmps[6]?.getD undef = .pointer (some ⟨bt, 0, none⟩) := by simpa [Array.getD_eq_getD_getElem?] using h6
  simp [results, go_sem, h6', c, toldArr]

set_option maxRecDepth 100000 in
set_option maxHeartbeats 4000000 in
theorem execute_no (L : Loc) (cr : Nat) (r : Rules) (c : CB) (now : Int) (chs : List (Int × Int)) (k : Call) (w : World) (h : Sys w L cr r c now chs) (hlen : chs.length ≤ 999990) (hw : Win c now) (hcode : (c.look now).beforeCode = 1 ∨ (c.look now).beforeCode = 2) :
    Calls Try.prog 49 #[.pointer (some ⟨L.cb, 0, none⟩), .pointer (some ⟨L.bd, 0, none⟩), .agg (callArr k)] w fun e w' =>
      e = .returned (.agg (toldArr ⟨false, 0, -(c.look now).beforeCode, false, Cnt.zero⟩)) ∧ Evo L r w cr w' (c.look now).before1 now (chs ++ c.lookTold now) := by
  obtain ⟨s3, l3, m3⟩ := lay3 k h
  have HX := Lib.hid (exec_no L cr (w.heap.size + 1 + 1) w.heap.size (w.heap.size + 1) r c now chs k (w3c w L k) s3 l3 (by omega) hw hcode)
  have M3 := Lib.hid m3
  have q2 := hmf
  obtain ⟨n, hn⟩ : ∃ n, n = (c.look now).beforeCode := ⟨_, rfl⟩
  rw [← hn] at hcode
  have n0 : 0 < n := by omega
  have n1 : n ≤ 2 := by omega
  rw [← hn] at HX ⊢
  have HN := Lib.hid hn
  clear h s3 l3 m3 hcode hn
  unfold callArr
  go_enter_defers Try.func49, Try.ntmps49
  go_wp2_with fail
  obtain ⟨bt, hbt⟩ : ∃ b, b = w.heap.size + 1 + 1 := ⟨_, rfl⟩
  have HB := Lib.hid (show w.heap.size ≤ bt by omega)
  rw [← hbt] at HX
  rw [← hbt]
  clear hbt
  refine HX.out.mono ?_
  rintro e w4 ⟨rfl, ev⟩
  have E4 := Lib.hid ev
  have t4 := blk_cell ev.at_
  have f4 := blk_free ev.at_
  have z4 := size_of_heap ev.at_
  unfold toldArr Told.zero at t4
  clear ev HX
  go_upto_region 4 with fail
  have m5 : Mod [bt] w4 (w4.setCell ⟨bt, 1, none⟩ (.int .i64 0)) := (Mod.refl _ w4).setCell _ _ (by simp)
  have E5 := Lib.hid (E4.out.told (t2 := Told.zero) m5 ((heap_set_same E4.out.at_).trans (by simp [toldArr, Told.zero])))
  clear m5 E4 t4 f4 z4
  generalize (w4.setCell ⟨bt, 1, none⟩ (.int .i64 0)) = w5 at *
  have t4 := blk_cell E5.out.at_
  have f4 := blk_free E5.out.at_
  have z4 := size_of_heap E5.out.at_
  unfold toldArr Told.zero at t4
  go_wp2_with fail
  refine (code_any n _ (by omega) n1).mono ?_
  rintro e wc ⟨rfl, rfl⟩
  go_upto_region 5 with fail
  have m6 : Mod [bt] w5 (w5.setCell ⟨bt, 2, none⟩ (.int .i64 (-n))) := (Mod.refl _ w5).setCell _ _ (by simp)
  have E6 := Lib.hid (E5.out.told (t2 := ⟨false, 0, -n, false, Cnt.zero⟩) m6 ((heap_set_same E5.out.at_).trans (by simp [toldArr, Told.zero])))
  clear m6 E5 t4 f4 z4
  generalize (w5.setCell ⟨bt, 2, none⟩ (.int .i64 (-n))) = w6 at *
  have t4 := blk_cell E6.out.at_
  have f4 := blk_free E6.out.at_
  have z4 := size_of_heap E6.out.at_
  unfold toldArr at t4
  have e1 : (-n == 0) = false := by simp; omega
  go_wp2_with fail
  have E7 := Lib.hid E6.out.ten
  unfold told10 at E7
  clear t4 f4 z4 E6
  generalize (((((((((w6.setCell ⟨bt, 0, none⟩ (.bool false)).setCell ⟨bt, 1, none⟩ (.int .i64 0)).setCell ⟨bt, 2, none⟩ (.int .i64 (-n))).setCell ⟨bt, 3, none⟩ (.bool false)).setCell ⟨bt, 4, none⟩ (.int .u32 Cnt.zero.r)).setCell ⟨bt, 5, none⟩ (.int .u32 Cnt.zero.s)).setCell ⟨bt, 6, none⟩ (.int .u32 Cnt.zero.f)).setCell ⟨bt, 7, none⟩ (.int .u32 Cnt.zero.x)).setCell ⟨bt, 8, none⟩ (.int .u32 Cnt.zero.g)).setCell ⟨bt, 9, none⟩ (.int .u32 Cnt.zero.h) = w7 at *
  refine leaves_cons (f := 73) (args := #[.pointer (some ⟨bt, 0, none⟩)]) (by simp) (by simp [go_sem]) ?_
  refine (catch_idle _ _).mono ?_
  rintro e u' w'' ⟨rfl, rfl, rfl⟩
  exact ⟨_, told_result E7.out.at_ rfl, rfl, E7.out.evo M3.out HB.out⟩

set_option maxRecDepth 100000 in
set_option maxHeartbeats 4000000 in
theorem execute_ok (L : Loc) (cr : Nat) (r : Rules) (c : CB) (now : Int) (chs : List (Int × Int)) (k : Call) (w : World) (h : Sys w L cr r c now chs) (hlen : chs.length ≤ 999990) (hw : Win c now) (hcode : (c.look now).beforeCode = 0)
    (hp : k.pan = false) (l0 : 0 ≤ k.long) (n0 : -3000000000000000000 ≤ now) (n1 : now + k.long ≤ 3000000000000000000) (e0 : 0 ≤ k.err) (e1 : k.err ≤ 6) (hw2 : Win (c.look now).before1 (now + k.long))
    (hit : ((c.look now).before1.look (now + k.long)).gen = (c.look now).gen → Hit ((c.look now).before1.look (now + k.long)) (c.look now).rc.age) :
    Calls Try.prog 49 #[.pointer (some ⟨L.cb, 0, none⟩), .pointer (some ⟨L.bd, 0, none⟩), .agg (callArr k)] w fun e w' =>
      e = .returned (.agg (toldArr ⟨true, k.val, k.err, false, Cnt.zero⟩)) ∧ Evo L r w cr w' ((c.look now).before1.after r (c.look now).gen (c.look now).rc.age k.err (now + k.long)) (now + k.long) (chs ++ c.lookTold now ++ (c.look now).before1.afterTold r (c.look now).gen (c.look now).rc.age k.err (now + k.long)) := by
  obtain ⟨s3, l3, m3⟩ := lay3 k h
  have HX := Lib.hid (exec_ok L cr (w.heap.size + 1 + 1) w.heap.size (w.heap.size + 1) r c now chs k (w3c w L k) s3 l3 hlen hw hcode hp l0 n0 n1 e0 e1 hw2 hit)
  have M3 := Lib.hid m3
  have q2 := hmf
  clear h s3 l3 m3 hcode hw hw2 hit hp
  unfold callArr
  go_enter_defers Try.func49, Try.ntmps49
  go_wp2_with fail
  obtain ⟨bt, hbt⟩ : ∃ b, b = w.heap.size + 1 + 1 := ⟨_, rfl⟩
  have HB := Lib.hid (show w.heap.size ≤ bt by omega)
  rw [← hbt] at HX
  rw [← hbt]
  clear hbt
  refine HX.out.mono ?_
  rintro e w4 ⟨rfl, ev⟩
  have E4 := Lib.hid ev
  have t4 := blk_cell ev.at_
  have f4 := blk_free ev.at_
  have z4 := size_of_heap ev.at_
  unfold toldArr at t4
  clear ev HX
  go_upto_region 4 with fail
  have m5 : Mod [bt] w4 (w4.setCell ⟨bt, 1, none⟩ (.int .i64 k.val)) := (Mod.refl _ w4).setCell _ _ (by simp)
  have E5 := Lib.hid (E4.out.told (t2 := ⟨true, k.val, 0, false, Cnt.zero⟩) m5 ((heap_set_same E4.out.at_).trans (by simp [toldArr])))
  clear m5 E4 t4 f4 z4
  generalize (w4.setCell ⟨bt, 1, none⟩ (.int .i64 k.val)) = w5 at *
  have t4 := blk_cell E5.out.at_
  have f4 := blk_free E5.out.at_
  have z4 := size_of_heap E5.out.at_
  unfold toldArr at t4
  go_wp2_with fail
  refine (codeErr_any k.err _).mono ?_
  rintro e wc ⟨rfl, rfl⟩
  go_upto_region 5 with fail
  have m6 : Mod [bt] w5 (w5.setCell ⟨bt, 2, none⟩ (.int .i64 0)) := (Mod.refl _ w5).setCell _ _ (by simp)
  have E6 := Lib.hid (E5.out.told (t2 := ⟨true, k.val, 0, false, Cnt.zero⟩) m6 ((heap_set_same E5.out.at_).trans (by simp [toldArr])))
  clear m6 E5 t4 f4 z4
  generalize (w5.setCell ⟨bt, 2, none⟩ (.int .i64 0)) = wx at *
  have t4 := blk_cell E6.out.at_
  have f4 := blk_free E6.out.at_
  have z4 := size_of_heap E6.out.at_
  unfold toldArr at t4
  go_wp2_with fail
  refine (number_any (errV k.err) k.err _ (errV_is e0 e1)).mono ?_
  rintro e wc ⟨rfl, rfl⟩
  go_upto_region 7 with fail
  have m6 : Mod [bt] wx (wx.setCell ⟨bt, 2, none⟩ (.int .i64 k.err)) := (Mod.refl _ wx).setCell _ _ (by simp)
  have EX := Lib.hid (E6.out.told (t2 := ⟨true, k.val, k.err, false, Cnt.zero⟩) m6 ((heap_set_same E6.out.at_).trans (by simp [toldArr])))
  clear m6 E6 t4 f4 z4
  generalize (wx.setCell ⟨bt, 2, none⟩ (.int .i64 k.err)) = w6 at *
  have E6 := EX
  have t4 := blk_cell E6.out.at_
  have f4 := blk_free E6.out.at_
  have z4 := size_of_heap E6.out.at_
  unfold toldArr at t4
  clear EX
  go_wp2_with fail
  have E7 := Lib.hid E6.out.ten
  unfold told10 at E7
  clear t4 f4 z4 E6
  generalize (((((((((w6.setCell ⟨bt, 0, none⟩ (.bool true)).setCell ⟨bt, 1, none⟩ (.int .i64 k.val)).setCell ⟨bt, 2, none⟩ (.int .i64 k.err)).setCell ⟨bt, 3, none⟩ (.bool false)).setCell ⟨bt, 4, none⟩ (.int .u32 Cnt.zero.r)).setCell ⟨bt, 5, none⟩ (.int .u32 Cnt.zero.s)).setCell ⟨bt, 6, none⟩ (.int .u32 Cnt.zero.f)).setCell ⟨bt, 7, none⟩ (.int .u32 Cnt.zero.x)).setCell ⟨bt, 8, none⟩ (.int .u32 Cnt.zero.g)).setCell ⟨bt, 9, none⟩ (.int .u32 Cnt.zero.h) = w7 at *
  refine leaves_cons (f := 73) (args := #[.pointer (some ⟨bt, 0, none⟩)]) (by simp) (by simp [go_sem]) ?_
  refine (catch_idle _ _).mono ?_
  rintro e u' w'' ⟨rfl, rfl, rfl⟩
  refine ⟨_, told_result E7.out.at_ rfl, rfl, ?_⟩
  have ev := E7.out.evo M3.out HB.out
  rw [List.append_assoc] at ev
  exact ev

end Go.Proofs.Ytcjklacfoldaoaa
