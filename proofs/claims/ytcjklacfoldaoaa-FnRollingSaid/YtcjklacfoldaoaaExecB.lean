/- Contract of Execute, where the request does not panic. Conditions: the breaker and its bed lie in their blocks, the numbers are in their ranges. -/
import Derived.Test.YtcjklacfoldaoaaExecA
namespace Go.Proofs.Ytcjklacfoldaoaa
open Go.RowKit
attribute [local go_sem ↓] Go.wp_at_zero Go.wp_at_succ

def reqV (bt xb xc : Nat) : Value := .func (.func 75) #[] #[.pointer (some ⟨bt, 0, none⟩), .pointer (some ⟨xb, 0, none⟩), .pointer (some ⟨xc, 0, none⟩)]

set_option maxRecDepth 100000 in
set_option maxHeartbeats 4000000 in
theorem exec_no (L : Loc) (cr bt xb xc : Nat) (r : Rules) (c : CB) (now : Int) (chs : List (Int × Int)) (k : Call) (w : World) (h : Sys w L cr r c now chs) (hl : Lay w L cr bt xb xc k Told.zero) (hlen : chs.length ≤ 1000000) (hw : Win c now) (hcode : (c.look now).beforeCode = 1 ∨ (c.look now).beforeCode = 2) :
    Calls Try.prog 74 #[.pointer (some ⟨L.cb, 0, none⟩), reqV bt xb xc] w fun e w' =>
      e = .returned (.tuple #[.int .i64 0, codeV (c.look now).beforeCode]) ∧ EvoL L r w cr bt xb xc k w' (c.look now).before1 now (chs ++ c.lookTold now) Told.zero := by
  have HW := Lib.hid hw
  have HC := Lib.hid hcode
  have S1 := Lib.hid (h.alloc (Obj.cells #[Value.pointer (some ⟨L.cb, 0, none⟩)] 110))
  have L1 := Lib.hid (hl.below ((Below.refl _ _).alloc (Nat.le_refl _) (Obj.cells #[Value.pointer (some ⟨L.cb, 0, none⟩)] 110)))
  have M1 := Lib.hid ((Mod.refl [] w).alloc (Obj.cells #[Value.pointer (some ⟨L.cb, 0, none⟩)] 110))
  obtain ⟨s, hs⟩ := codeV_data hcode
  have HSS := Lib.hid hs
  have q1 := eq_data_nil
  clear h hl hw hcode hs
  unfold reqV
  go_enter_defers Try.func74, Try.ntmps74
  go_wp2_with fail
  refine (beforeReq_any L cr r c now chs _ S1.out hlen HW.out).mono ?_
  rintro e w2 ⟨rfl, cr2, s2, k2, m2⟩
  have L2 := Lib.hid (L1.out.go k2 m2)
  have S2 := Lib.hid s2
  have K2 := Lib.hid k2
  have M2 := Lib.hid m2
  rw [HSS.out]
  clear s2 k2 m2
  go_wp2_with fail
  refine ⟨_, results_tmp2 rfl _ _ _, ?_, ?_⟩
  · rw [HSS.out]; rfl
  · have b : Below w2.heap.size w2 ((w2.alloc (Obj.cells #[Value.int IntKind.u64 (c.look now).gen] 37)).alloc (Obj.cells #[Value.int IntKind.u64 (c.look now).rc.age] 37)) := ((Below.refl _ _).alloc (Nat.le_refl _) _).alloc (by simp) _
    refine ⟨cr2, S2.out.below b, L2.out.below b, ?_, ?_⟩
    · rcases K2.out with q | q
      · exact .inl q
      · refine .inr ?_
        simp at q
        omega
    · exact ((M1.out.mono (by simp)).trans (M2.out.mono (by simp))).trans (Mod.of_below b)

theorem EvoL.after {L : Loc} {r : Rules} {w w1 w2 : World} {cr cr1 bt xb xc : Nat} {k : Call} {c2 : CB} {n2 : Int} {h2 : List (Int × Int)} {t2 : Told} (q : cr1 = cr ∨ w.heap.size ≤ cr1) (m : Mod [L.cb, L.rc, L.bk, L.bd, cr, bt] w w1) (e : EvoL L r w1 cr1 bt xb xc k w2 c2 n2 h2 t2) : EvoL L r w cr bt xb xc k w2 c2 n2 h2 t2 := by
  obtain ⟨cr2, s2, l2, q2, m2⟩ := e
  refine ⟨cr2, s2, l2, ?_, ?_⟩
  · have := m.size
    rcases q2 with rfl | q2
    · exact q
    · exact .inr (by omega)
  · refine m.trans_new m2 ?_
    intro i hi
    simp at hi ⊢
    rcases hi with h | h | h | h | h | h
    · exact .inl (.inl h)
    · exact .inl (.inr (.inl h))
    · exact .inl (.inr (.inr (.inl h)))
    · exact .inl (.inr (.inr (.inr (.inl h))))
    · subst h; rcases q with e | e
      · exact .inl (.inr (.inr (.inr (.inr (.inl e)))))
      · exact .inr e
    · exact .inl (.inr (.inr (.inr (.inr (.inr h)))))

set_option maxRecDepth 100000 in
set_option maxHeartbeats 4000000 in
theorem exec_ok (L : Loc) (cr bt xb xc : Nat) (r : Rules) (c : CB) (now : Int) (chs : List (Int × Int)) (k : Call) (w : World) (h : Sys w L cr r c now chs) (hl : Lay w L cr bt xb xc k Told.zero) (hlen : chs.length ≤ 999990) (hw : Win c now) (hcode : (c.look now).beforeCode = 0)
    (hp : k.pan = false) (l0 : 0 ≤ k.long) (n0 : -3000000000000000000 ≤ now) (n1 : now + k.long ≤ 3000000000000000000) (e0 : 0 ≤ k.err) (e1 : k.err ≤ 6) (hw2 : Win (c.look now).before1 (now + k.long))
    (hit : ((c.look now).before1.look (now + k.long)).gen = (c.look now).gen → Hit ((c.look now).before1.look (now + k.long)) (c.look now).rc.age) :
    Calls Try.prog 74 #[.pointer (some ⟨L.cb, 0, none⟩), reqV bt xb xc] w fun e w' =>
      e = .returned (.tuple #[.int .i64 k.val, errV k.err]) ∧ EvoL L r w cr bt xb xc k w' ((c.look now).before1.after r (c.look now).gen (c.look now).rc.age k.err (now + k.long)) (now + k.long) (chs ++ c.lookTold now ++ (c.look now).before1.afterTold r (c.look now).gen (c.look now).rc.age k.err (now + k.long)) ⟨true, 0, 0, false, Cnt.zero⟩ := by
  have HW := Lib.hid hw
  have HW2 := Lib.hid hw2
  have HH := Lib.hid hit
  have HP := Lib.hid hp
  have HC := Lib.hid (show codeV (c.look now).beforeCode = .nilIface by rw [hcode]; rfl)
  have S1 := Lib.hid (h.alloc (Obj.cells #[Value.pointer (some ⟨L.cb, 0, none⟩)] 110))
  have L1 := Lib.hid (hl.below ((Below.refl _ _).alloc (Nat.le_refl _) (Obj.cells #[Value.pointer (some ⟨L.cb, 0, none⟩)] 110)))
  have M1 := Lib.hid ((Mod.refl [] w).alloc (Obj.cells #[Value.pointer (some ⟨L.cb, 0, none⟩)] 110))
  have X1 := Lib.hid (heap_alloc_new w (Obj.cells #[Value.pointer (some ⟨L.cb, 0, none⟩)] 110))
  have P1 := Lib.hid (h.sep (Nat.le_refl _))
  have zt := Lib.hid (size_of_heap hl.told)
  have q1 := eq_nil_nil
  have q2 := hmf
  clear h hl hw hcode hw2 hit hp
  unfold reqV
  go_enter_defers Try.func74, Try.ntmps74
  go_wp2_with fail
  refine (beforeReq_any L cr r c now chs _ S1.out (by omega) HW.out).mono ?_
  rintro e w2 ⟨rfl, cr2, s2, k2, m2⟩
  obtain ⟨bx, hbx⟩ : ∃ b, b = w.heap.size := ⟨_, rfl⟩
  have X2 := Lib.hid (m2.heap X1.out P1.out)
  have P2 := Lib.hid (P1.out.next (size_of_heap X1.out) k2)
  have L2 := Lib.hid ((L1.out.go k2 m2).below (((Below.refl _ _).alloc (Nat.le_refl _) (Obj.cells #[Value.int IntKind.u64 (c.look now).gen] 37)).alloc (by simp) (Obj.cells #[Value.int IntKind.u64 (c.look now).rc.age] 37)))
  have S2 := Lib.hid ((s2.alloc (Obj.cells #[Value.int IntKind.u64 (c.look now).gen] 37)).alloc (Obj.cells #[Value.int IntKind.u64 (c.look now).rc.age] 37))
  have G2 := Lib.hid (heap_alloc_lt (o := (Obj.cells #[Value.int IntKind.u64 (c.look now).rc.age] 37)) (heap_alloc_new w2 (Obj.cells #[Value.int IntKind.u64 (c.look now).gen] 37)))
  have A2 := Lib.hid (show ((w2.alloc (Obj.cells #[Value.int IntKind.u64 (c.look now).gen] 37)).alloc (Obj.cells #[Value.int IntKind.u64 (c.look now).rc.age] 37)).heap[w2.heap.size + 1]? = _ from heap_alloc_at (by simp))
  have PG := Lib.hid (s2.sep (Nat.le_refl _))
  have PA := Lib.hid (s2.sep (Nat.le_succ _))
  have K2 := Lib.hid (show cr2 = cr ∨ w.heap.size ≤ cr2 from k2.elim .inl (fun q => .inr (by simp at q; omega)))
  have M2 := Lib.hid (((M1.out.mono (S' := [L.cb, L.rc, L.bk, L.bd, cr, bt]) (by simp)).trans (m2.mono (by simp))).trans (Mod.of_below (((Below.refl w2.heap.size w2).alloc (Nat.le_refl _) (Obj.cells #[Value.int IntKind.u64 (c.look now).gen] 37)).alloc (by simp) (Obj.cells #[Value.int IntKind.u64 (c.look now).rc.age] 37))))
  have X2' := Lib.hid (heap_alloc_lt (o := (Obj.cells #[Value.int IntKind.u64 (c.look now).rc.age] 37)) (heap_alloc_lt (o := (Obj.cells #[Value.int IntKind.u64 (c.look now).gen] 37)) X2.out))
  have Z2 := Lib.hid (show bt < w2.heap.size from size_of_heap (L1.out.go k2 m2).told)
  rw [HC.out]
  rw [← hbx] at X2' P2
  rw [← hbx]
  clear s2 k2 m2 X1 P1 X2 S1 L1 hbx
  go_upto_region 5 with fail
  obtain ⟨bg, hbg⟩ : ∃ b, b = w2.heap.size := ⟨_, rfl⟩
  rw [← hbg] at G2 A2 PG Z2
  have PA2 := Lib.hid (show Sep L cr2 (bg + 1) by rw [hbg]; exact PA.out)
  rw [← hbg]
  clear hbg PA
  generalize ((w2.alloc (Obj.cells #[Value.int IntKind.u64 (c.look now).gen] 37)).alloc (Obj.cells #[Value.int IntKind.u64 (c.look now).rc.age] 37)) = W3 at *
  have hl1 : (chs ++ c.lookTold now).length ≤ 999999 := by
    have : (c.lookTold now).length ≤ 1 := by unfold CB.lookTold; split <;> simp
    simp
    omega
  go_wp2_with fail
  refine (fn_ok L cr2 bt xb xc r (c.look now).before1 now (chs ++ c.lookTold now) k W3 S2.out L2.out HP.out n0 l0 n1).mono ?_
  rintro e w4 ⟨rfl, cr4, s4, l4, k4, m4⟩
  have nin {b : Nat} (hb : Sep L cr2 b) (hlt : bt < b) : b ∉ [L.cb, L.rc, L.bk, L.bd, cr2, bt] := by
    unfold Sep at hb
    simp at hb ⊢
    omega
  have nx : bx ≠ bt := by rintro rfl; have := L2.out.told.symm.trans X2'.out; simp at this
  have nix : bx ∉ [L.cb, L.rc, L.bk, L.bd, cr2, bt] := by
    have := P2.out
    unfold Sep at this
    simp at this ⊢
    omega
  have x4 := blk_cell (m4.heap X2'.out nix) 0
  have g4 := blk_cell (m4.heap G2.out (nin PG.out Z2.out)) 0
  have a4 := blk_cell (m4.heap A2.out (nin PA2.out (by have := Z2.out; omega))) 0
  simp at x4 g4 a4
  have S4 := Lib.hid s4
  have L4 := Lib.hid l4
  have K4 := Lib.hid k4
  have M4 := Lib.hid m4
  clear s4 l4 k4 m4 nin nix nx
  go_wp2_with fail
  refine (after_any L cr4 r (c.look now).before1 (now + k.long) (c.look now).gen (c.look now).rc.age k.err (errV k.err) (chs ++ c.lookTold now) w4 S4.out hl1 HW2.out (errV_is e0 e1) HH.out).mono ?_
  rintro e w5 ⟨rfl, cr5, s5, k5, m5⟩
  go_wp2_with fail
  refine leaves_cons (f := 90) (args := #[.pointer (some ⟨bx, 0, none⟩), .pointer (some ⟨bg, 0, none⟩), .pointer (some ⟨bg + 1, 0, none⟩)]) (by simp) (by simp [go_sem]) ?_
  refine (catch2_idle _ _ _ _).mono ?_
  rintro e u' w'' ⟨rfl, rfl, rfl⟩
  refine ⟨_, results_tmp2 rfl _ _ _, rfl, ?_⟩
  exact EvoL.after K2.out M2.out (EvoL.after K4.out M4.out ⟨cr5, s5, L4.out.go k5 m5, k5, m5.mono (by simp)⟩)

end Go.Proofs.Ytcjklacfoldaoaa
