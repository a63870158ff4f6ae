import Derived.Deep.CutBlock
import Derived.Deep.DeepCutAuto
import Derived.Deep.QuietTactic
import Derived.BigQuiet
import Derived.Deep.RegionHeld3
import Derived.Laws.Pointers
import Derived.Recover
import Derived.Defers
import Derived.Test.YtcjklacfoldaoaaGreatTwo
/- Contracts of the closures about Execute, where the request does not panic. Conditions: the breaker and its bed lie in their blocks, the numbers are in their ranges. -/
namespace Go.Proofs.YtcjklacfoldaoaaGreat
open Go.RowKit
attribute [local go_sem ↓] Go.wp_at_zero Go.wp_at_succ

theorem Evo.tock {w : World} {L : Loc} {cr : Nat} {r : Rules} {c : CB} {now : Int} {chs : List (Int × Int)} (h : Sys w L cr r c now chs) {now' : Int} (n0 : -3000000000000000000 ≤ now') (n1 : now' ≤ 3000000000000000000) : Evo L r w cr (w.setCell ⟨L.bd, 0, none⟩ (.int .i64 now')) c now' chs := by
  obtain ⟨v, hv, ho, hr⟩ := h.bed.bd
  refine h.withBed ⟨cr, ⟨heap_set_other h.bed.bp h.lok.bd_bp.symm, v, (heap_set_same hv).trans (by simp), owns_keep ho ?_, hr⟩, .inl rfl, by simpa using h.crlt⟩ ((Mod.refl _ w).setCell _ _ (by simp)) n0 n1
  intro g hg
  refine Below.heap_setCell _ _ _ _ ?_
  rcases hr with e | e
  · rw [e] at hg; cases hg
  · rw [e] at hg; simp at hg; subst hg; exact h.free.bd


theorem fault_q (n : Int) (W : World) (m : Nat) : Calls Tryz.prog 37 #[.int .i64 n] (W.drewN m) fun e w' => e = .returned (errV n) ∧ ∃ j, w' = (W.drewN m).drewN j :=
  (fault_any n (W.drewN m)).mono fun _ _ ⟨a, hm⟩ => ⟨a, 0, hm.symm⟩
structure Call where
  wait : Int
  long : Int
  val : Int
  err : Int
  pan : Bool
structure Told where
  ran : Bool
  val : Int
  err : Int
  pan : Bool
  cnt : Cnt
def callRow (k : Call) : List Value := [.int .i64 k.wait, .int .i64 k.long, .int .i64 k.val, .int .i64 k.err, .bool k.pan]
def toldRow (t : Told) : List Value := [.bool t.ran, .int .i64 t.val, .int .i64 t.err, .bool t.pan, .int .u32 t.cnt.r, .int .u32 t.cnt.s, .int .u32 t.cnt.f, .int .u32 t.cnt.x, .int .u32 t.cnt.g, .int .u32 t.cnt.h]
def toldArr (t : Told) : Array Value := #[.bool t.ran, .int .i64 t.val, .int .i64 t.err, .bool t.pan, .int .u32 t.cnt.r, .int .u32 t.cnt.s, .int .u32 t.cnt.f, .int .u32 t.cnt.x, .int .u32 t.cnt.g, .int .u32 t.cnt.h]
def callArr (k : Call) : Array Value := #[.int .i64 k.wait, .int .i64 k.long, .int .i64 k.val, .int .i64 k.err, .bool k.pan]
def Told.zero : Told := ⟨false, 0, 0, false, Cnt.zero⟩

/-- What the closures hold: the told, the variable with the bed's address, the call. -/
structure Lay (w : World) (L : Loc) (cr bt xb xc : Nat) (k : Call) (t : Told) : Prop where
  told : w.heap[bt]? = some (.cells (toldArr t) 40 (0, 0))
  bed : w.heap[xb]? = some (.cells #[.pointer (some ⟨L.bd, 0, none⟩)] 57 (0, 0))
  call : w.heap[xc]? = some (.cells (callArr k) 36 (0, 0))
  st : Sep L cr bt
  sb : Sep L cr xb
  sc : Sep L cr xc
theorem Lay.ne {w : World} {L : Loc} {cr bt xb xc : Nat} {k : Call} {t : Told} (h : Lay w L cr bt xb xc k t) : bt ≠ xb ∧ bt ≠ xc ∧ xb ≠ xc := by
  refine ⟨?_, ?_, ?_⟩
  · rintro rfl; have := h.told.symm.trans h.bed; simp at this
  · rintro rfl; have := h.told.symm.trans h.call; simp at this
  · rintro rfl; have := h.bed.symm.trans h.call; simp at this
theorem Lay.go {w w' : World} {L : Loc} {cr cr' bt xb xc : Nat} {k : Call} {t : Told} (h : Lay w L cr bt xb xc k t) (q : cr' = cr ∨ w.heap.size ≤ cr') (m : Mod [L.cb, L.rc, L.bk, L.bd, cr] w w') : Lay w' L cr' bt xb xc k t :=
  ⟨m.heap h.told h.st, m.heap h.bed h.sb, m.heap h.call h.sc, h.st.next (size_of_heap h.told) q, h.sb.next (size_of_heap h.bed) q, h.sc.next (size_of_heap h.call) q⟩
theorem Lay.set {w w' : World} {L : Loc} {cr bt xb xc : Nat} {k : Call} {t t' : Told} (h : Lay w L cr bt xb xc k t) (m : Mod [bt] w w') (ht : w'.heap[bt]? = some (.cells (toldArr t') 40 (0, 0))) : Lay w' L cr bt xb xc k t' :=
  ⟨ht, m.heap h.bed (by simpa using h.ne.1.symm), m.heap h.call (by simpa using h.ne.2.1.symm), h.st, h.sb, h.sc⟩
theorem Lay.below {w w' : World} {L : Loc} {cr bt xb xc : Nat} {k : Call} {t : Told} (h : Lay w L cr bt xb xc k t) (b : Below w.heap.size w w') : Lay w' L cr bt xb xc k t := h.go (.inl rfl) (Mod.of_below b)

/-- The breaker has gone on, and the told has been written. -/
def EvoL (L : Loc) (r : Rules) (w : World) (cr bt xb xc : Nat) (k : Call) (w' : World) (c' : CB) (now' : Int) (chs' : List (Int × Int)) (t' : Told) : Prop :=
  ∃ cr', Sys w' L cr' r c' now' chs' ∧ Lay w' L cr' bt xb xc k t' ∧ (cr' = cr ∨ w.heap.size ≤ cr') ∧ Mod [L.cb, L.rc, L.bk, L.bd, cr, bt] w w'

/-- The told has been written: what the breaker is made of is as it was. -/
theorem Sys.told {w w' : World} {L : Loc} {cr bt xb xc : Nat} {r : Rules} {c : CB} {now : Int} {chs : List (Int × Int)} {k : Call} {t : Told} (h : Sys w L cr r c now chs) (hl : Lay w L cr bt xb xc k t) (m : Mod [bt] w w') : Sys w' L cr r c now chs := by
  have n {g : Nat} {x : Array Value} {U : TypeId} (hk : w.heap[g]? = some (.cells x U (0, 0))) (hu : U ≠ 40) : g ∉ [bt] := by
    simp; rintro rfl; have := hl.told; rw [hk] at this; simp at this; exact hu this.2
  have hs := hl.st
  unfold Sep at hs
  simp at hs
  exact h.keep m (by simp; omega) (by simp; omega) (by simp; omega) (by simp; omega) (n h.bed.bp (by decide)) (n h.rb (by decide)) (n h.rs (by decide)) (by simp; omega)

set_option maxRecDepth 100000 in
set_option maxHeartbeats 2000000 in
/-- The request: it takes its time, and returns. -/
theorem fn_ok (L : Loc) (cr bt xb xc : Nat) (r : Rules) (c : CB) (now : Int) (chs : List (Int × Int)) (k : Call) (w : World) (h : Sys w L cr r c now chs) (hl : Lay w L cr bt xb xc k Told.zero) (hp : k.pan = false) (n0 : -3000000000000000000 ≤ now) (l0 : 0 ≤ k.long) (n1 : now + k.long ≤ 3000000000000000000) :
    Calls Tryz.prog 53 #[.pointer (some ⟨bt, 0, none⟩), .pointer (some ⟨xb, 0, none⟩), .pointer (some ⟨xc, 0, none⟩)] w fun e w' =>
      e = .returned (.tuple #[.int .i64 k.val, errV k.err]) ∧ EvoL L r w cr bt xb xc k w' c (now + k.long) chs ⟨true, 0, 0, false, Cnt.zero⟩ := by
  have HS := Lib.hid h
  have HL := Lib.hid hl
  have tc := blk_cell hl.told
  have tf := blk_free hl.told
  have xbc := blk_cell hl.bed 0
  have xcc := blk_cell hl.call
  have z1 := size_of_heap hl.told
  have z2 := size_of_heap hl.bed
  have z3 := size_of_heap hl.call
  simp at xbc
  have cc : ∀ i, w.cell? ⟨xc, i, none⟩ = #[.int .i64 k.wait, .int .i64 k.long, .int .i64 k.val, .int .i64 k.err, .bool false][i]? := by
    intro i; rw [xcc i]; unfold callArr; rw [hp]
  obtain ⟨bv, hbv, _, _⟩ := h.bed.bd
  have d0 := blk_cell hbv 0
  have d1 := blk_free hbv 0
  simp at d0
  have y0 := size_of_heap hbv
  obtain ⟨m1, m2, m3⟩ := hl.ne
  have s1 := hl.st
  have s2 := hl.sb
  have s3 := hl.sc
  unfold Sep at s1 s2 s3
  simp at s1 s2 s3
  obtain ⟨_, _, _, a4, _⟩ := s1
  obtain ⟨_, _, _, b4, _⟩ := s2
  obtain ⟨_, _, _, c4, _⟩ := s3
  have HBV := Lib.hid hbv
  have HP := Lib.hid hp
  clear h hl hbv xcc hp
  go_enter Tryz.func53, Tryz.ntmps53
  go_upto_region 2 with fail
  have m1 : Mod [bt] w (w.setCell ⟨bt, 0, none⟩ (.bool true)) := (Mod.refl _ w).setCell _ _ (by simp)
  have HT1 : (w.setCell ⟨bt, 0, none⟩ (.bool true)).heap[bt]? = some (Obj.cells (toldArr ⟨true, 0, 0, false, Cnt.zero⟩) 40 (0, 0)) := (heap_set_same HL.out.told).trans (by simp [toldArr, Told.zero])
  have L1 := Lib.hid (HL.out.set m1 HT1)
  have S1 := Lib.hid (HS.out.told HL.out m1)
  have M1 := Lib.hid m1
  clear tc tf xbc cc d0 d1 m1 HT1 HBV z1 z2 z3 y0
  generalize (w.setCell ⟨bt, 0, none⟩ (.bool true)) = w1 at *
  have xbc := blk_cell L1.out.bed 0
  simp at xbc
  have cc : ∀ i, w1.cell? ⟨xc, i, none⟩ = #[.int .i64 k.wait, .int .i64 k.long, .int .i64 k.val, .int .i64 k.err, .bool false][i]? := by
    intro i; rw [blk_cell L1.out.call i]; unfold callArr; rw [HP.out]
  obtain ⟨bv, hbv, _, _⟩ := S1.out.bed.bd
  have d0 := blk_cell hbv 0
  have d1 := blk_free hbv 0
  simp at d0
  have y0 := size_of_heap hbv
  have z3 := size_of_heap L1.out.call
  have z2 := size_of_heap L1.out.bed
  clear hbv
  go_region
  obtain ⟨cr2, s2, k2, m2⟩ := Evo.tock S1.out (now' := now + k.long) (by omega) n1
  have L2 := Lib.hid ((L1.out.go k2 m2).below ((Below.refl _ _).drew))
  have S2 := Lib.hid s2.drew
  have MM := Lib.hid (m2.drew)
  have K2 := Lib.hid k2
  clear s2 m2 k2 xbc cc d0 d1 y0 z3 z2
  generalize (w1.setCell ⟨L.bd, 0, none⟩ (.int .i64 (now + k.long))).drew = w2 at *
  have cc : ∀ i, w2.cell? ⟨xc, i, none⟩ = #[.int .i64 k.wait, .int .i64 k.long, .int .i64 k.val, .int .i64 k.err, .bool false][i]? := by
    intro i; rw [blk_cell L2.out.call i]; unfold callArr; rw [HP.out]
  go_upto_region 5 with fail
  go_quiet ((go_at_call 37; exact Calls.quiet_of (fault_q k.err _ _)))
  go_wp2_with fail
  go_ret2
  have b : Below w2.heap.size w2 (w2.drewN nq) := ⟨rfl, rfl, rfl, Nat.le_refl _, fun _ _ => rfl⟩
  refine ⟨rfl, cr2, S2.out.below b, L2.out.below b, ?_, ?_⟩
  · have := M1.out.size
    rcases K2.out with q | q
    · exact .inl q
    · exact .inr (by omega)
  · exact ((M1.out.mono (by simp)).trans (MM.out.mono (by simp))).trans (Mod.of_below b)

theorem hmf (fn : Fn) (first cap : Array Value) (w : World) : (Instr.makeFunc fn first cap).run Tryz.prog w = .ok (.func fn first cap) w := rfl

/-- The closure that the thin package defers finds nothing. -/
theorem catch_idle (p : Addr) (w : World) :
    CallsD Tryz.prog 51 #[.pointer (some p)] .returning w fun e u' w' => e = .returned (.tuple #[]) ∧ u' = .returning ∧ w' = w := by
  refine callsD_of_wpS Tryz.func51 rfl fun c₀ cs hu => ?_
  apply wpS_seq
  apply wpS_region
  simp [wpOpsS, go_sem, recoverD, hu, Tryz.ntmps51, Exit.thenS]
  refine wpS_cond (t := false) (by simp [Act.eval, Array.replicate]) ?_
  simp only [Bool.false_eq_true, if_false]
  refine wpS_of_wp (wp_skip ?_)
  cases c₀
  simp_all [bodyPostS, results, Tryz.results51]
/-- The closure that Execute defers finds nothing. -/
theorem catch2_idle (p q s : Addr) (w : World) :
    CallsD Tryz.prog 72 #[.pointer (some p), .pointer (some q), .pointer (some s)] .returning w fun e u' w' => e = .returned (.tuple #[]) ∧ u' = .returning ∧ w' = w := by
  refine callsD_of_wpS Tryz.func72 rfl fun c₀ cs hu => ?_
  apply wpS_seq
  apply wpS_region
  simp [wpOpsS, go_sem, recoverD, hu, Tryz.ntmps72, Exit.thenS]
  apply wpS_seq
  apply wpS_region
  simp [wpOpsS, go_sem, recoverD, hu, Exit.thenS]
  refine wpS_cond (t := false) (by simp [Act.eval, Array.replicate]) ?_
  simp only [Bool.false_eq_true, if_false]
  refine wpS_of_wp (wp_skip ?_)
  cases c₀
  simp_all [bodyPostS, results, Tryz.results72]

end Go.Proofs.YtcjklacfoldaoaaGreat

/- Contract of Execute, where the request does not panic. Conditions: the breaker and its bed lie in their blocks, the numbers are in their ranges. -/
namespace Go.Proofs.YtcjklacfoldaoaaGreat
open Go.RowKit
attribute [local go_sem ↓] Go.wp_at_zero Go.wp_at_succ

def reqV (bt xb xc : Nat) : Value := .func (.func 53) #[] #[.pointer (some ⟨bt, 0, none⟩), .pointer (some ⟨xb, 0, none⟩), .pointer (some ⟨xc, 0, none⟩)]

set_option maxRecDepth 100000 in
set_option maxHeartbeats 4000000 in
theorem exec_no (L : Loc) (cr bt xb xc : Nat) (r : Rules) (c : CB) (now : Int) (chs : List (Int × Int)) (k : Call) (w : World) (h : Sys w L cr r c now chs) (hl : Lay w L cr bt xb xc k Told.zero) (hlen : chs.length ≤ 1000000) (hw : Win c now) (hcode : (c.look now).beforeCode = 1 ∨ (c.look now).beforeCode = 2) :
    Calls Tryz.prog 52 #[.pointer (some ⟨L.cb, 0, none⟩), reqV bt xb xc] w fun e w' =>
      e = .returned (.tuple #[.int .i64 0, codeV (c.look now).beforeCode]) ∧ EvoL L r w cr bt xb xc k w' (c.look now).before1 now (chs ++ c.lookTold now) Told.zero := by
  have HW := Lib.hid hw
  have HC := Lib.hid hcode
  have S1 := Lib.hid (h.alloc (Obj.cells #[Value.pointer (some ⟨L.cb, 0, none⟩)] 60))
  have L1 := Lib.hid (hl.below ((Below.refl _ _).alloc (Nat.le_refl _) (Obj.cells #[Value.pointer (some ⟨L.cb, 0, none⟩)] 60)))
  have M1 := Lib.hid ((Mod.refl [] w).alloc (Obj.cells #[Value.pointer (some ⟨L.cb, 0, none⟩)] 60))
  obtain ⟨s, hs⟩ := codeV_data hcode
  have HSS := Lib.hid hs
  have q1 := eq_data_nil
  clear h hl hw hcode hs
  unfold reqV
  go_enter_defers Tryz.func52, Tryz.ntmps52
  go_wp2_with fail
  refine (beforeReq_any L cr r c now chs _ S1.out hlen HW.out).mono ?_
  rintro e w2 ⟨rfl, cr2, s2, k2, m2⟩
  have L2 := Lib.hid (L1.out.go k2 m2)
  have S2 := Lib.hid s2
  have K2 := Lib.hid k2
  have M2 := Lib.hid m2
  rw [HSS.out]
  clear s2 k2 m2
  go_wp2_with fail
  refine ⟨_, results_tmp2 rfl _ _ _, ?_, ?_⟩
  · rw [HSS.out]; rfl
  · have b : Below w2.heap.size w2 ((w2.alloc (Obj.cells #[Value.int IntKind.u64 (c.look now).gen] 50)).alloc (Obj.cells #[Value.int IntKind.u64 (c.look now).rc.age] 50)) := ((Below.refl _ _).alloc (Nat.le_refl _) _).alloc (by simp) _
    refine ⟨cr2, S2.out.below b, L2.out.below b, ?_, ?_⟩
    · rcases K2.out with q | q
      · exact .inl q
      · refine .inr ?_
        simp at q
        omega
    · exact ((M1.out.mono (by simp)).trans (M2.out.mono (by simp))).trans (Mod.of_below b)

theorem EvoL.after {L : Loc} {r : Rules} {w w1 w2 : World} {cr cr1 bt xb xc : Nat} {k : Call} {c2 : CB} {n2 : Int} {h2 : List (Int × Int)} {t2 : Told} (q : cr1 = cr ∨ w.heap.size ≤ cr1) (m : Mod [L.cb, L.rc, L.bk, L.bd, cr, bt] w w1) (e : EvoL L r w1 cr1 bt xb xc k w2 c2 n2 h2 t2) : EvoL L r w cr bt xb xc k w2 c2 n2 h2 t2 := by
  obtain ⟨cr2, s2, l2, q2, m2⟩ := e
  refine ⟨cr2, s2, l2, ?_, ?_⟩
  · have := m.size
    rcases q2 with rfl | q2
    · exact q
    · exact .inr (by omega)
  · refine m.trans_new m2 ?_
    intro i hi
    simp at hi ⊢
    rcases hi with h | h | h | h | h | h
    · exact .inl (.inl h)
    · exact .inl (.inr (.inl h))
    · exact .inl (.inr (.inr (.inl h)))
    · exact .inl (.inr (.inr (.inr (.inl h))))
    · subst h; rcases q with e | e
      · exact .inl (.inr (.inr (.inr (.inr (.inl e)))))
      · exact .inr e
    · exact .inl (.inr (.inr (.inr (.inr (.inr h)))))

set_option maxRecDepth 100000 in
set_option maxHeartbeats 4000000 in
theorem exec_ok (L : Loc) (cr bt xb xc : Nat) (r : Rules) (c : CB) (now : Int) (chs : List (Int × Int)) (k : Call) (w : World) (h : Sys w L cr r c now chs) (hl : Lay w L cr bt xb xc k Told.zero) (hlen : chs.length ≤ 999990) (hw : Win c now) (hcode : (c.look now).beforeCode = 0)
    (hp : k.pan = false) (l0 : 0 ≤ k.long) (n0 : -3000000000000000000 ≤ now) (n1 : now + k.long ≤ 3000000000000000000) (e0 : 0 ≤ k.err) (e1 : k.err ≤ 6) (hw2 : Win (c.look now).before1 (now + k.long))
    (hit : ((c.look now).before1.look (now + k.long)).gen = (c.look now).gen → Hit ((c.look now).before1.look (now + k.long)) (c.look now).rc.age) :
    Calls Tryz.prog 52 #[.pointer (some ⟨L.cb, 0, none⟩), reqV bt xb xc] w fun e w' =>
      e = .returned (.tuple #[.int .i64 k.val, errV k.err]) ∧ EvoL L r w cr bt xb xc k w' ((c.look now).before1.after r (c.look now).gen (c.look now).rc.age k.err (now + k.long)) (now + k.long) (chs ++ c.lookTold now ++ (c.look now).before1.afterTold r (c.look now).gen (c.look now).rc.age k.err (now + k.long)) ⟨true, 0, 0, false, Cnt.zero⟩ := by
  have HW := Lib.hid hw
  have HW2 := Lib.hid hw2
  have HH := Lib.hid hit
  have HP := Lib.hid hp
  have HC := Lib.hid (show codeV (c.look now).beforeCode = .nilIface by rw [hcode]; rfl)
  have S1 := Lib.hid (h.alloc (Obj.cells #[Value.pointer (some ⟨L.cb, 0, none⟩)] 60))
  have L1 := Lib.hid (hl.below ((Below.refl _ _).alloc (Nat.le_refl _) (Obj.cells #[Value.pointer (some ⟨L.cb, 0, none⟩)] 60)))
  have M1 := Lib.hid ((Mod.refl [] w).alloc (Obj.cells #[Value.pointer (some ⟨L.cb, 0, none⟩)] 60))
  have X1 := Lib.hid (heap_alloc_new w (Obj.cells #[Value.pointer (some ⟨L.cb, 0, none⟩)] 60))
  have P1 := Lib.hid (h.sep (Nat.le_refl _))
  have zt := Lib.hid (size_of_heap hl.told)
  have q1 := eq_nil_nil
  have q2 := hmf
  clear h hl hw hcode hw2 hit hp
  unfold reqV
  go_enter_defers Tryz.func52, Tryz.ntmps52
  go_wp2_with fail
  refine (beforeReq_any L cr r c now chs _ S1.out (by omega) HW.out).mono ?_
  rintro e w2 ⟨rfl, cr2, s2, k2, m2⟩
  obtain ⟨bx, hbx⟩ : ∃ b, b = w.heap.size := ⟨_, rfl⟩
  have X2 := Lib.hid (m2.heap X1.out P1.out)
  have P2 := Lib.hid (P1.out.next (size_of_heap X1.out) k2)
  have L2 := Lib.hid ((L1.out.go k2 m2).below (((Below.refl _ _).alloc (Nat.le_refl _) (Obj.cells #[Value.int IntKind.u64 (c.look now).gen] 50)).alloc (by simp) (Obj.cells #[Value.int IntKind.u64 (c.look now).rc.age] 50)))
  have S2 := Lib.hid ((s2.alloc (Obj.cells #[Value.int IntKind.u64 (c.look now).gen] 50)).alloc (Obj.cells #[Value.int IntKind.u64 (c.look now).rc.age] 50))
  have G2 := Lib.hid (heap_alloc_lt (o := (Obj.cells #[Value.int IntKind.u64 (c.look now).rc.age] 50)) (heap_alloc_new w2 (Obj.cells #[Value.int IntKind.u64 (c.look now).gen] 50)))
  have A2 := Lib.hid (show ((w2.alloc (Obj.cells #[Value.int IntKind.u64 (c.look now).gen] 50)).alloc (Obj.cells #[Value.int IntKind.u64 (c.look now).rc.age] 50)).heap[w2.heap.size + 1]? = _ from heap_alloc_at (by simp))
  have PG := Lib.hid (s2.sep (Nat.le_refl _))
  have PA := Lib.hid (s2.sep (Nat.le_succ _))
  have K2 := Lib.hid (show cr2 = cr ∨ w.heap.size ≤ cr2 from k2.elim .inl (fun q => .inr (by simp at q; omega)))
  have M2 := Lib.hid (((M1.out.mono (S' := [L.cb, L.rc, L.bk, L.bd, cr, bt]) (by simp)).trans (m2.mono (by simp))).trans (Mod.of_below (((Below.refl w2.heap.size w2).alloc (Nat.le_refl _) (Obj.cells #[Value.int IntKind.u64 (c.look now).gen] 50)).alloc (by simp) (Obj.cells #[Value.int IntKind.u64 (c.look now).rc.age] 50))))
  have X2' := Lib.hid (heap_alloc_lt (o := (Obj.cells #[Value.int IntKind.u64 (c.look now).rc.age] 50)) (heap_alloc_lt (o := (Obj.cells #[Value.int IntKind.u64 (c.look now).gen] 50)) X2.out))
  have Z2 := Lib.hid (show bt < w2.heap.size from size_of_heap (L1.out.go k2 m2).told)
  rw [HC.out]
  rw [← hbx] at X2' P2
  rw [← hbx]
  clear s2 k2 m2 X1 P1 X2 S1 L1 hbx
  go_upto_region 5 with fail
  obtain ⟨bg, hbg⟩ : ∃ b, b = w2.heap.size := ⟨_, rfl⟩
  rw [← hbg] at G2 A2 PG Z2
  have PA2 := Lib.hid (show Sep L cr2 (bg + 1) by rw [hbg]; exact PA.out)
  rw [← hbg]
  clear hbg PA
  generalize ((w2.alloc (Obj.cells #[Value.int IntKind.u64 (c.look now).gen] 50)).alloc (Obj.cells #[Value.int IntKind.u64 (c.look now).rc.age] 50)) = W3 at *
  have hl1 : (chs ++ c.lookTold now).length ≤ 999999 := by
    have : (c.lookTold now).length ≤ 1 := by unfold CB.lookTold; split <;> simp
    simp
    omega
  go_wp2_with fail
  refine (fn_ok L cr2 bt xb xc r (c.look now).before1 now (chs ++ c.lookTold now) k W3 S2.out L2.out HP.out n0 l0 n1).mono ?_
  rintro e w4 ⟨rfl, cr4, s4, l4, k4, m4⟩
  have nin {b : Nat} (hb : Sep L cr2 b) (hlt : bt < b) : b ∉ [L.cb, L.rc, L.bk, L.bd, cr2, bt] := by
    unfold Sep at hb
    simp at hb ⊢
    omega
  have nx : bx ≠ bt := by rintro rfl; have := L2.out.told.symm.trans X2'.out; simp at this
  have nix : bx ∉ [L.cb, L.rc, L.bk, L.bd, cr2, bt] := by
    have := P2.out
    unfold Sep at this
    simp at this ⊢
    omega
  have x4 := blk_cell (m4.heap X2'.out nix) 0
  have g4 := blk_cell (m4.heap G2.out (nin PG.out Z2.out)) 0
  have a4 := blk_cell (m4.heap A2.out (nin PA2.out (by have := Z2.out; omega))) 0
  simp at x4 g4 a4
  have S4 := Lib.hid s4
  have L4 := Lib.hid l4
  have K4 := Lib.hid k4
  have M4 := Lib.hid m4
  clear s4 l4 k4 m4 nin nix nx
  go_wp2_with fail
  refine (after_any L cr4 r (c.look now).before1 (now + k.long) (c.look now).gen (c.look now).rc.age k.err (errV k.err) (chs ++ c.lookTold now) w4 S4.out hl1 HW2.out (errV_is e0 e1) HH.out).mono ?_
  rintro e w5 ⟨rfl, cr5, s5, k5, m5⟩
  go_wp2_with fail
  refine leaves_cons (f := 72) (args := #[.pointer (some ⟨bx, 0, none⟩), .pointer (some ⟨bg, 0, none⟩), .pointer (some ⟨bg + 1, 0, none⟩)]) (by simp) (by simp [go_sem]) ?_
  refine (catch2_idle _ _ _ _).mono ?_
  rintro e u' w'' ⟨rfl, rfl, rfl⟩
  refine ⟨_, results_tmp2 rfl _ _ _, rfl, ?_⟩
  exact EvoL.after K2.out M2.out (EvoL.after K4.out M4.out ⟨cr5, s5, L4.out.go k5 m5, k5, m5.mono (by simp)⟩)

end Go.Proofs.YtcjklacfoldaoaaGreat

/- Contract of the thin package's execute, where the request does not panic. Conditions: the breaker and its bed lie in their blocks, the numbers are in their ranges. -/
namespace Go.Proofs.YtcjklacfoldaoaaGreat
open Go.RowKit
attribute [local go_sem ↓] Go.wp_at_zero Go.wp_at_succ

set_option maxHeartbeats 400000 in
theorem codeErr_any (n : Int) (w : World) : Calls Tryz.prog 36 #[errV n] w fun e w' => e = .returned (.int .i64 0) ∧ w = w' := by
  by_cases h : n = 0
  · have e : errV n = codeV 0 := by unfold errV; rw [if_pos h]; rfl
    rw [e]; exact code_any 0 w (by omega) (by omega)
  · have e : errV n = .iface 126 (.int .i64 n) := by unfold errV; rw [if_neg h]
    have q := eq_failed_data
    rw [e]
    go_enter Tryz.func36, Tryz.ntmps36
    go_wp2
    go_ret
    exact ⟨rfl, rfl⟩

/-- What a call is told. -/
def execTold (c : CB) (now : Int) (k : Call) : Told := if (c.look now).beforeCode = 0 then (if k.pan then ⟨true, 0, 0, true, Cnt.zero⟩ else ⟨true, k.val, k.err, false, Cnt.zero⟩) else ⟨false, 0, -(c.look now).beforeCode, false, Cnt.zero⟩
def execErr (k : Call) : Int := if k.pan then 7 else k.err
def execNow (c : CB) (now : Int) (k : Call) : Int := if (c.look now).beforeCode = 0 then now + k.long else now
def execC (r : Rules) (c : CB) (now : Int) (k : Call) : CB := if (c.look now).beforeCode = 0 then (c.look now).before1.after r (c.look now).gen (c.look now).rc.age (execErr k) (now + k.long) else (c.look now).before1
def execChs (r : Rules) (c : CB) (now : Int) (k : Call) : List (Int × Int) := c.lookTold now ++ (if (c.look now).beforeCode = 0 then (c.look now).before1.afterTold r (c.look now).gen (c.look now).rc.age (execErr k) (now + k.long) else [])

def w3c (w : World) (L : Loc) (k : Call) : World := ((w.alloc (Obj.cells #[Value.pointer (some ⟨L.bd, 0, none⟩)] 57)).alloc (Obj.cells (callArr k) 36)).alloc (Obj.cells (toldArr Told.zero) 40)
theorem lay3 {w : World} {L : Loc} {cr : Nat} {r : Rules} {c : CB} {now : Int} {chs : List (Int × Int)} (k : Call) (h : Sys w L cr r c now chs) : Sys (w3c w L k) L cr r c now chs ∧ Lay (w3c w L k) L cr (w.heap.size + 1 + 1) w.heap.size (w.heap.size + 1) k Told.zero ∧ Mod [] w (w3c w L k) :=
  ⟨((h.alloc _).alloc _).alloc _, ⟨heap_alloc_at (by simp), heap_alloc_lt (heap_alloc_lt (heap_alloc_new w _)), heap_alloc_lt (heap_alloc_at (by simp)), h.sep (by omega), h.sep (Nat.le_refl _), h.sep (by omega)⟩, (((Mod.refl _ w).alloc _).alloc _).alloc _⟩
theorem EvoL.evo {L : Loc} {r : Rules} {w w2 w3 : World} {cr bt xb xc : Nat} {k : Call} {c2 : CB} {n2 : Int} {h2 : List (Int × Int)} {t2 : Told} (m : Mod [] w w2) (hb : w.heap.size ≤ bt) (e : EvoL L r w2 cr bt xb xc k w3 c2 n2 h2 t2) : Evo L r w cr w3 c2 n2 h2 := by
  obtain ⟨cr2, s2, l2, q2, m2⟩ := e
  refine ⟨cr2, s2, ?_, ?_⟩
  · have := m.size
    rcases q2 with q | q
    · exact .inl q
    · exact .inr (by omega)
  · refine (m.mono (S' := [L.cb, L.rc, L.bk, L.bd, cr]) (by simp)).trans_new m2 ?_
    intro i hi
    simp at hi ⊢
    rcases hi with h | h | h | h | h | h
    · exact .inl (.inl h)
    · exact .inl (.inr (.inl h))
    · exact .inl (.inr (.inr (.inl h)))
    · exact .inl (.inr (.inr (.inr (.inl h))))
    · exact .inl (.inr (.inr (.inr (.inr h))))
    · exact .inr (by omega)
/-- The told alone has been written. -/
theorem EvoL.told {L : Loc} {r : Rules} {w w1 w2 : World} {cr bt xb xc : Nat} {k : Call} {c1 : CB} {n1 : Int} {h1 : List (Int × Int)} {t1 t2 : Told} (e : EvoL L r w cr bt xb xc k w1 c1 n1 h1 t1) (m : Mod [bt] w1 w2) (ht : w2.heap[bt]? = some (.cells (toldArr t2) 40 (0, 0))) : EvoL L r w cr bt xb xc k w2 c1 n1 h1 t2 := by
  obtain ⟨cr1, s1, l1, q1, m1⟩ := e
  exact ⟨cr1, s1.told l1 m, l1.set m ht, q1, m1.trans (m.mono (by simp))⟩
theorem EvoL.at_ {L : Loc} {r : Rules} {w w1 : World} {cr bt xb xc : Nat} {k : Call} {c1 : CB} {n1 : Int} {h1 : List (Int × Int)} {t1 : Told} (e : EvoL L r w cr bt xb xc k w1 c1 n1 h1 t1) : w1.heap[bt]? = some (.cells (toldArr t1) 40 (0, 0)) := by
  obtain ⟨cr1, s1, l1, q1, m1⟩ := e
  exact l1.told

/-- The told is read and written back. -/
def told10 (w : World) (bt : Nat) (t : Told) : World := (((((((((w.setCell ⟨bt, 0, none⟩ (.bool t.ran)).setCell ⟨bt, 1, none⟩ (.int .i64 t.val)).setCell ⟨bt, 2, none⟩ (.int .i64 t.err)).setCell ⟨bt, 3, none⟩ (.bool t.pan)).setCell ⟨bt, 4, none⟩ (.int .u32 t.cnt.r)).setCell ⟨bt, 5, none⟩ (.int .u32 t.cnt.s)).setCell ⟨bt, 6, none⟩ (.int .u32 t.cnt.f)).setCell ⟨bt, 7, none⟩ (.int .u32 t.cnt.x)).setCell ⟨bt, 8, none⟩ (.int .u32 t.cnt.g)).setCell ⟨bt, 9, none⟩ (.int .u32 t.cnt.h)
theorem EvoL.ten {L : Loc} {r : Rules} {w w1 : World} {cr bt xb xc : Nat} {k : Call} {c1 : CB} {n1 : Int} {h1 : List (Int × Int)} {t : Told} (e : EvoL L r w cr bt xb xc k w1 c1 n1 h1 t) : EvoL L r w cr bt xb xc k (told10 w1 bt t) c1 n1 h1 t := by
  refine e.told (((((((((((Mod.refl [bt] w1).setCell _ _ (by simp)).setCell _ _ (by simp)).setCell _ _ (by simp)).setCell _ _ (by simp)).setCell _ _ (by simp)).setCell _ _ (by simp)).setCell _ _ (by simp)).setCell _ _ (by simp)).setCell _ _ (by simp)).setCell _ _ (by simp)) ?_
  refine (heap_set_same (heap_set_same (heap_set_same (heap_set_same (heap_set_same (heap_set_same (heap_set_same (heap_set_same (heap_set_same (heap_set_same e.at_)))))))))).trans ?_
  simp [toldArr]
set_option maxRecDepth 100000 in
theorem told_result {w : World} {bt : Nat} {t : Told} {tmps : Array Value} (ht : w.heap[bt]? = some (.cells (toldArr t) 40 (0, 0))) (h6 : tmps.getD 6 undef = .pointer (some ⟨bt, 0, none⟩)) : (results Tryz.f24 tmps).run Tryz.prog w = .ok (.agg (toldArr t)) w := by
  have c := blk_cell ht
  unfold toldArr at c
  have h6' : tmps[6]?.getD undef = .pointer (some ⟨bt, 0, none⟩) := by simpa [Array.getD_eq_getD_getElem?] using h6
  simp [results, go_sem, h6', c, toldArr]

set_option maxRecDepth 100000 in
set_option maxHeartbeats 4000000 in
theorem execute_no (L : Loc) (cr : Nat) (r : Rules) (c : CB) (now : Int) (chs : List (Int × Int)) (k : Call) (w : World) (h : Sys w L cr r c now chs) (hlen : chs.length ≤ 999990) (hw : Win c now) (hcode : (c.look now).beforeCode = 1 ∨ (c.look now).beforeCode = 2) :
    Calls Tryz.prog 24 #[.pointer (some ⟨L.cb, 0, none⟩), .pointer (some ⟨L.bd, 0, none⟩), .agg (callArr k)] w fun e w' =>
      e = .returned (.agg (toldArr ⟨false, 0, -(c.look now).beforeCode, false, Cnt.zero⟩)) ∧ Evo L r w cr w' (c.look now).before1 now (chs ++ c.lookTold now) := by
  obtain ⟨s3, l3, m3⟩ := lay3 k h
  have HX := Lib.hid (exec_no L cr (w.heap.size + 1 + 1) w.heap.size (w.heap.size + 1) r c now chs k (w3c w L k) s3 l3 (by omega) hw hcode)
  have M3 := Lib.hid m3
  have q2 := hmf
  obtain ⟨n, hn⟩ : ∃ n, n = (c.look now).beforeCode := ⟨_, rfl⟩
  rw [← hn] at hcode
  have n0 : 0 < n := by omega
  have n1 : n ≤ 2 := by omega
  rw [← hn] at HX ⊢
  have HN := Lib.hid hn
  clear h s3 l3 m3 hcode hn
  unfold callArr
  go_enter_defers Tryz.func24, Tryz.ntmps24
  go_wp2_with fail
  obtain ⟨bt, hbt⟩ : ∃ b, b = w.heap.size + 1 + 1 := ⟨_, rfl⟩
  have HB := Lib.hid (show w.heap.size ≤ bt by omega)
  rw [← hbt] at HX
  rw [← hbt]
  clear hbt
  refine HX.out.mono ?_
  rintro e w4 ⟨rfl, ev⟩
  have E4 := Lib.hid ev
  have t4 := blk_cell ev.at_
  have f4 := blk_free ev.at_
  have z4 := size_of_heap ev.at_
  unfold toldArr Told.zero at t4
  clear ev HX
  go_upto_region 4 with fail
  have m5 : Mod [bt] w4 (w4.setCell ⟨bt, 1, none⟩ (.int .i64 0)) := (Mod.refl _ w4).setCell _ _ (by simp)
  have E5 := Lib.hid (E4.out.told (t2 := Told.zero) m5 ((heap_set_same E4.out.at_).trans (by simp [toldArr, Told.zero])))
  clear m5 E4 t4 f4 z4
  generalize (w4.setCell ⟨bt, 1, none⟩ (.int .i64 0)) = w5 at *
  have t4 := blk_cell E5.out.at_
  have f4 := blk_free E5.out.at_
  have z4 := size_of_heap E5.out.at_
  unfold toldArr Told.zero at t4
  go_wp2_with fail
  refine (code_any n _ (by omega) n1).mono ?_
  rintro e wc ⟨rfl, rfl⟩
  go_upto_region 5 with fail
  have m6 : Mod [bt] w5 (w5.setCell ⟨bt, 2, none⟩ (.int .i64 (-n))) := (Mod.refl _ w5).setCell _ _ (by simp)
  have E6 := Lib.hid (E5.out.told (t2 := ⟨false, 0, -n, false, Cnt.zero⟩) m6 ((heap_set_same E5.out.at_).trans (by simp [toldArr, Told.zero])))
  clear m6 E5 t4 f4 z4
  generalize (w5.setCell ⟨bt, 2, none⟩ (.int .i64 (-n))) = w6 at *
  have t4 := blk_cell E6.out.at_
  have f4 := blk_free E6.out.at_
  have z4 := size_of_heap E6.out.at_
  unfold toldArr at t4
  have e1 : (-n == 0) = false := by simp; omega
  go_wp2_with fail
  have E7 := Lib.hid E6.out.ten
  unfold told10 at E7
  clear t4 f4 z4 E6
  generalize (((((((((w6.setCell ⟨bt, 0, none⟩ (.bool false)).setCell ⟨bt, 1, none⟩ (.int .i64 0)).setCell ⟨bt, 2, none⟩ (.int .i64 (-n))).setCell ⟨bt, 3, none⟩ (.bool false)).setCell ⟨bt, 4, none⟩ (.int .u32 Cnt.zero.r)).setCell ⟨bt, 5, none⟩ (.int .u32 Cnt.zero.s)).setCell ⟨bt, 6, none⟩ (.int .u32 Cnt.zero.f)).setCell ⟨bt, 7, none⟩ (.int .u32 Cnt.zero.x)).setCell ⟨bt, 8, none⟩ (.int .u32 Cnt.zero.g)).setCell ⟨bt, 9, none⟩ (.int .u32 Cnt.zero.h) = w7 at *
  refine leaves_cons (f := 51) (args := #[.pointer (some ⟨bt, 0, none⟩)]) (by simp) (by simp [go_sem]) ?_
  refine (catch_idle _ _).mono ?_
  rintro e u' w'' ⟨rfl, rfl, rfl⟩
  exact ⟨_, told_result E7.out.at_ rfl, rfl, E7.out.evo M3.out HB.out⟩

set_option maxRecDepth 100000 in
set_option maxHeartbeats 4000000 in
theorem execute_ok (L : Loc) (cr : Nat) (r : Rules) (c : CB) (now : Int) (chs : List (Int × Int)) (k : Call) (w : World) (h : Sys w L cr r c now chs) (hlen : chs.length ≤ 999990) (hw : Win c now) (hcode : (c.look now).beforeCode = 0)
    (hp : k.pan = false) (l0 : 0 ≤ k.long) (n0 : -3000000000000000000 ≤ now) (n1 : now + k.long ≤ 3000000000000000000) (e0 : 0 ≤ k.err) (e1 : k.err ≤ 6) (hw2 : Win (c.look now).before1 (now + k.long))
    (hit : ((c.look now).before1.look (now + k.long)).gen = (c.look now).gen → Hit ((c.look now).before1.look (now + k.long)) (c.look now).rc.age) :
    Calls Tryz.prog 24 #[.pointer (some ⟨L.cb, 0, none⟩), .pointer (some ⟨L.bd, 0, none⟩), .agg (callArr k)] w fun e w' =>
      e = .returned (.agg (toldArr ⟨true, k.val, k.err, false, Cnt.zero⟩)) ∧ Evo L r w cr w' ((c.look now).before1.after r (c.look now).gen (c.look now).rc.age k.err (now + k.long)) (now + k.long) (chs ++ c.lookTold now ++ (c.look now).before1.afterTold r (c.look now).gen (c.look now).rc.age k.err (now + k.long)) := by
  obtain ⟨s3, l3, m3⟩ := lay3 k h
  have HX := Lib.hid (exec_ok L cr (w.heap.size + 1 + 1) w.heap.size (w.heap.size + 1) r c now chs k (w3c w L k) s3 l3 hlen hw hcode hp l0 n0 n1 e0 e1 hw2 hit)
  have M3 := Lib.hid m3
  have q2 := hmf
  clear h s3 l3 m3 hcode hw hw2 hit hp
  unfold callArr
  go_enter_defers Tryz.func24, Tryz.ntmps24
  go_wp2_with fail
  obtain ⟨bt, hbt⟩ : ∃ b, b = w.heap.size + 1 + 1 := ⟨_, rfl⟩
  have HB := Lib.hid (show w.heap.size ≤ bt by omega)
  rw [← hbt] at HX
  rw [← hbt]
  clear hbt
  refine HX.out.mono ?_
  rintro e w4 ⟨rfl, ev⟩
  have E4 := Lib.hid ev
  have t4 := blk_cell ev.at_
  have f4 := blk_free ev.at_
  have z4 := size_of_heap ev.at_
  unfold toldArr at t4
  clear ev HX
  go_upto_region 4 with fail
  have m5 : Mod [bt] w4 (w4.setCell ⟨bt, 1, none⟩ (.int .i64 k.val)) := (Mod.refl _ w4).setCell _ _ (by simp)
  have E5 := Lib.hid (E4.out.told (t2 := ⟨true, k.val, 0, false, Cnt.zero⟩) m5 ((heap_set_same E4.out.at_).trans (by simp [toldArr])))
  clear m5 E4 t4 f4 z4
  generalize (w4.setCell ⟨bt, 1, none⟩ (.int .i64 k.val)) = w5 at *
  have t4 := blk_cell E5.out.at_
  have f4 := blk_free E5.out.at_
  have z4 := size_of_heap E5.out.at_
  unfold toldArr at t4
  go_wp2_with fail
  refine (codeErr_any k.err _).mono ?_
  rintro e wc ⟨rfl, rfl⟩
  go_upto_region 5 with fail
  have m6 : Mod [bt] w5 (w5.setCell ⟨bt, 2, none⟩ (.int .i64 0)) := (Mod.refl _ w5).setCell _ _ (by simp)
  have E6 := Lib.hid (E5.out.told (t2 := ⟨true, k.val, 0, false, Cnt.zero⟩) m6 ((heap_set_same E5.out.at_).trans (by simp [toldArr])))
  clear m6 E5 t4 f4 z4
  generalize (w5.setCell ⟨bt, 2, none⟩ (.int .i64 0)) = wx at *
  have t4 := blk_cell E6.out.at_
  have f4 := blk_free E6.out.at_
  have z4 := size_of_heap E6.out.at_
  unfold toldArr at t4
  go_wp2_with fail
  refine (number_any (errV k.err) k.err _ (errV_is e0 e1)).mono ?_
  rintro e wc ⟨rfl, rfl⟩
  go_upto_region 7 with fail
  have m6 : Mod [bt] wx (wx.setCell ⟨bt, 2, none⟩ (.int .i64 k.err)) := (Mod.refl _ wx).setCell _ _ (by simp)
  have EX := Lib.hid (E6.out.told (t2 := ⟨true, k.val, k.err, false, Cnt.zero⟩) m6 ((heap_set_same E6.out.at_).trans (by simp [toldArr])))
  clear m6 E6 t4 f4 z4
  generalize (wx.setCell ⟨bt, 2, none⟩ (.int .i64 k.err)) = w6 at *
  have E6 := EX
  have t4 := blk_cell E6.out.at_
  have f4 := blk_free E6.out.at_
  have z4 := size_of_heap E6.out.at_
  unfold toldArr at t4
  clear EX
  go_wp2_with fail
  have E7 := Lib.hid E6.out.ten
  unfold told10 at E7
  clear t4 f4 z4 E6
  generalize (((((((((w6.setCell ⟨bt, 0, none⟩ (.bool true)).setCell ⟨bt, 1, none⟩ (.int .i64 k.val)).setCell ⟨bt, 2, none⟩ (.int .i64 k.err)).setCell ⟨bt, 3, none⟩ (.bool false)).setCell ⟨bt, 4, none⟩ (.int .u32 Cnt.zero.r)).setCell ⟨bt, 5, none⟩ (.int .u32 Cnt.zero.s)).setCell ⟨bt, 6, none⟩ (.int .u32 Cnt.zero.f)).setCell ⟨bt, 7, none⟩ (.int .u32 Cnt.zero.x)).setCell ⟨bt, 8, none⟩ (.int .u32 Cnt.zero.g)).setCell ⟨bt, 9, none⟩ (.int .u32 Cnt.zero.h) = w7 at *
  refine leaves_cons (f := 51) (args := #[.pointer (some ⟨bt, 0, none⟩)]) (by simp) (by simp [go_sem]) ?_
  refine (catch_idle _ _).mono ?_
  rintro e u' w'' ⟨rfl, rfl, rfl⟩
  refine ⟨_, told_result E7.out.at_ rfl, rfl, ?_⟩
  have ev := E7.out.evo M3.out HB.out
  rw [List.append_assoc] at ev
  exact ev

end Go.Proofs.YtcjklacfoldaoaaGreat

/- Contract of the thin package's execute, where the request panics. Conditions: the breaker and its bed lie in their blocks, the numbers are in their ranges. -/
namespace Go.Proofs.YtcjklacfoldaoaaGreat
open Go.RowKit
attribute [local go_sem ↓] Go.wp_at_zero Go.wp_at_succ

def reqText : ByteArray := ⟨#[114, 101, 113, 117, 101, 115, 116]⟩
def panV : Value := .iface 9 (.string reqText)

set_option maxRecDepth 100000 in
set_option maxHeartbeats 2000000 in
/-- The request: it takes its time, and panics. -/
theorem fn_pan (L : Loc) (cr bt xb xc : Nat) (r : Rules) (c : CB) (now : Int) (chs : List (Int × Int)) (k : Call) (w : World) (h : Sys w L cr r c now chs) (hl : Lay w L cr bt xb xc k Told.zero) (hp : k.pan = true) (n0 : -3000000000000000000 ≤ now) (l0 : 0 ≤ k.long) (n1 : now + k.long ≤ 3000000000000000000) :
    Calls Tryz.prog 53 #[.pointer (some ⟨bt, 0, none⟩), .pointer (some ⟨xb, 0, none⟩), .pointer (some ⟨xc, 0, none⟩)] w fun e w' =>
      e = .panicked [{ v := panV, recovered := false }] ∧ EvoL L r w cr bt xb xc k w' c (now + k.long) chs ⟨true, 0, 0, false, Cnt.zero⟩ := by
  have HS := Lib.hid h
  have HL := Lib.hid hl
  have tc := blk_cell hl.told
  have tf := blk_free hl.told
  have xbc := blk_cell hl.bed 0
  have xcc := blk_cell hl.call
  have z1 := size_of_heap hl.told
  have z2 := size_of_heap hl.bed
  have z3 := size_of_heap hl.call
  simp at xbc
  have cc : ∀ i, w.cell? ⟨xc, i, none⟩ = #[.int .i64 k.wait, .int .i64 k.long, .int .i64 k.val, .int .i64 k.err, .bool true][i]? := by
    intro i; rw [xcc i]; unfold callArr; rw [hp]
  obtain ⟨bv, hbv, _, _⟩ := h.bed.bd
  have d0 := blk_cell hbv 0
  have d1 := blk_free hbv 0
  simp at d0
  have y0 := size_of_heap hbv
  obtain ⟨m1, m2, m3⟩ := hl.ne
  have s1 := hl.st
  have s2 := hl.sb
  have s3 := hl.sc
  unfold Sep at s1 s2 s3
  simp at s1 s2 s3
  obtain ⟨_, _, _, a4, _⟩ := s1
  obtain ⟨_, _, _, b4, _⟩ := s2
  obtain ⟨_, _, _, c4, _⟩ := s3
  have HBV := Lib.hid hbv
  have HP := Lib.hid hp
  clear h hl hbv xcc hp
  go_enter Tryz.func53, Tryz.ntmps53
  go_upto_region 2 with fail
  have m1 : Mod [bt] w (w.setCell ⟨bt, 0, none⟩ (.bool true)) := (Mod.refl _ w).setCell _ _ (by simp)
  have HT1 : (w.setCell ⟨bt, 0, none⟩ (.bool true)).heap[bt]? = some (Obj.cells (toldArr ⟨true, 0, 0, false, Cnt.zero⟩) 40 (0, 0)) := (heap_set_same HL.out.told).trans (by simp [toldArr, Told.zero])
  have L1 := Lib.hid (HL.out.set m1 HT1)
  have S1 := Lib.hid (HS.out.told HL.out m1)
  have M1 := Lib.hid m1
  clear tc tf xbc cc d0 d1 m1 HT1 HBV z1 z2 z3 y0
  generalize (w.setCell ⟨bt, 0, none⟩ (.bool true)) = w1 at *
  have xbc := blk_cell L1.out.bed 0
  simp at xbc
  have cc : ∀ i, w1.cell? ⟨xc, i, none⟩ = #[.int .i64 k.wait, .int .i64 k.long, .int .i64 k.val, .int .i64 k.err, .bool true][i]? := by
    intro i; rw [blk_cell L1.out.call i]; unfold callArr; rw [HP.out]
  obtain ⟨bv, hbv, _, _⟩ := S1.out.bed.bd
  have d0 := blk_cell hbv 0
  have d1 := blk_free hbv 0
  simp at d0
  have y0 := size_of_heap hbv
  have z3 := size_of_heap L1.out.call
  have z2 := size_of_heap L1.out.bed
  clear hbv
  go_region
  obtain ⟨cr2, s2, k2, m2⟩ := Evo.tock S1.out (now' := now + k.long) (by omega) n1
  have L2 := Lib.hid ((L1.out.go k2 m2).below ((Below.refl _ _).drew))
  have S2 := Lib.hid s2.drew
  have MM := Lib.hid (m2.drew)
  have K2 := Lib.hid k2
  clear s2 m2 k2 xbc cc d0 d1 y0 z3 z2
  generalize (w1.setCell ⟨L.bd, 0, none⟩ (.int .i64 (now + k.long))).drew = w2 at *
  have cc : ∀ i, w2.cell? ⟨xc, i, none⟩ = #[.int .i64 k.wait, .int .i64 k.long, .int .i64 k.val, .int .i64 k.err, .bool true][i]? := by
    intro i; rw [blk_cell L2.out.call i]; unfold callArr; rw [HP.out]
  go_wp2_with fail
  refine ⟨rfl, rfl, cr2, S2.out, L2.out, ?_, ?_⟩
  · have := M1.out.size
    rcases K2.out with q | q
    · exact .inl q
    · exact .inr (by omega)
  · exact (M1.out.mono (by simp)).trans (MM.out.mono (by simp))

theorem as_string (v : Value) (w : World) : (Instr.typeAssert (.iface 9 v) 20 9 true).run Tryz.prog w = .ok (.tuple #[v, .bool true]) w := by kernel_rfl
set_option maxHeartbeats 400000 in
theorem panicked_any (s : ByteArray) (w : World) : Calls Tryz.prog 73 #[.iface 9 (.string s)] w fun e w' => e = .returned (.iface 125 (.string s)) ∧ w = w' := by
  have q := as_string
  go_enter Tryz.func73, Tryz.ntmps73
  go_wp2
  go_ret
  exact ⟨rfl, rfl⟩

theorem panicked_q (s : ByteArray) (W : World) (m : Nat) : Calls Tryz.prog 73 #[.iface 9 (.string s)] (W.drewN m) fun e w' => e = .returned (.iface 125 (.string s)) ∧ ∃ j, w' = (W.drewN m).drewN j :=
  (panicked_any s (W.drewN m)).mono fun _ _ ⟨a, hm⟩ => ⟨a, 0, hm.symm⟩

set_option maxRecDepth 100000 in
/-- The closure that the thin package defers finds a panic. -/
theorem catch_pan (L : Loc) (r : Rules) (w0 : World) (cr bt xb xc : Nat) (k : Call) (c : CB) (now : Int) (chs : List (Int × Int)) (v : Value) (u : TypeId) (older : List PanicEntry) (w : World) (h : EvoL L r w0 cr bt xb xc k w c now chs ⟨true, 0, 0, false, Cnt.zero⟩) :
    CallsD Tryz.prog 51 #[.pointer (some ⟨bt, 0, none⟩)] (.panicking ({ v := .iface u v, recovered := false } :: older)) w fun e u' w' =>
      e = .returned (.tuple #[]) ∧ u' = .panicking ({ v := .iface u v, recovered := true } :: older) ∧ EvoL L r w0 cr bt xb xc k w' c now chs ⟨true, 0, 0, true, Cnt.zero⟩ := by
  have hc := blk_cell h.at_ 3
  have hz := blk_free h.at_ 3
  simp [toldArr] at hc
  have fin : EvoL L r w0 cr bt xb xc k (w.setCell ⟨bt, 3, none⟩ (.bool true)) c now chs ⟨true, 0, 0, true, Cnt.zero⟩ :=
    h.told ((Mod.refl _ w).setCell _ _ (by simp)) ((heap_set_same h.at_).trans (by simp [toldArr]))
  have FIN := Lib.hid fin
  clear fin h
  refine callsD_of_wpS Tryz.func51 rfl fun c₀ cs hu => ?_
  apply wpS_seq
  apply wpS_region
  simp [wpOpsS, go_sem, recoverD, hu, Tryz.ntmps51, Exit.thenS]
  refine wpS_cond (t := true) (by simp [Act.eval, Array.replicate]) ?_
  simp only [if_true]
  apply wpS_region
  simp [wpOpsS, go_sem, hc, hz, bodyPostS, results, Tryz.results51]
  exact FIN.out

set_option maxRecDepth 100000 in
set_option maxHeartbeats 2000000 in
/-- The closure that Execute defers finds a panic: it tells the breaker, and panics anew. -/
theorem catch2_pan (L : Loc) (cr bx bg ba : Nat) (r : Rules) (c : CB) (now gen age : Int) (chs : List (Int × Int)) (s : ByteArray) (older : List PanicEntry) (w : World) (h : Sys w L cr r c now chs) (hlen : chs.length ≤ 999999) (hw : Win c now) (hit : (c.look now).gen = gen → Hit (c.look now) age)
    (hx : w.heap[bx]? = some (.cells #[.pointer (some ⟨L.cb, 0, none⟩)] 60 (0, 0))) (hg : w.heap[bg]? = some (.cells #[.int .u64 gen] 50 (0, 0))) (ha : w.heap[ba]? = some (.cells #[.int .u64 age] 50 (0, 0))) (px : Sep L cr bx) (pg : Sep L cr bg) (pa : Sep L cr ba) :
    CallsD Tryz.prog 72 #[.pointer (some ⟨bx, 0, none⟩), .pointer (some ⟨bg, 0, none⟩), .pointer (some ⟨ba, 0, none⟩)] (.panicking ({ v := .iface 9 (.string s), recovered := false } :: older)) w fun e u' w' =>
      e = .panicked [{ v := .iface 9 (.string s), recovered := false }] ∧ u' = .panicking ({ v := .iface 9 (.string s), recovered := true } :: older) ∧ Evo L r w cr w' (c.after r gen age 7 now) now (chs ++ c.afterTold r gen age 7 now) := by
  have x0 := blk_cell hx 0
  have g0 := blk_cell hg 0
  have a0 := blk_cell ha 0
  simp at x0 g0 a0
  have HS := Lib.hid h
  have HW := Lib.hid hw
  have HH := Lib.hid hit
  have HX := Lib.hid hx
  have HG := Lib.hid hg
  have HA := Lib.hid ha
  clear h hw hit hx hg ha
  refine callsD_of_wpS Tryz.func72 rfl fun c₀ cs hu => ?_
  apply wpS_seq
  apply wpS_region
  simp [wpOpsS, go_sem, recoverD, hu, Tryz.ntmps72, Exit.thenS]
  apply wpS_seq
  apply wpS_region
  simp [wpOpsS, go_sem, Exit.thenS]
  refine wpS_cond (t := true) (by simp [Act.eval, Array.replicate]) ?_
  simp only [if_true]
  refine wpS_of_wp ?_
  have e : (#[Value.pointer (some ⟨bx, 0, none⟩), Value.pointer (some ⟨bg, 0, none⟩), Value.pointer (some ⟨ba, 0, none⟩)] ++ ((((Array.replicate 11 undef).setIfInBounds 1 (Value.iface 9 (Value.string s))).setIfInBounds 0 (Value.iface 9 (Value.string s))).setIfInBounds 2 (Value.iface 9 (Value.string s))).setIfInBounds 3 (Value.bool true)) =
      #[Value.pointer (some ⟨bx, 0, none⟩), Value.pointer (some ⟨bg, 0, none⟩), Value.pointer (some ⟨ba, 0, none⟩), Value.iface 9 (Value.string s), Value.iface 9 (Value.string s), Value.iface 9 (Value.string s), Value.bool true, undef, undef, undef, undef, undef, undef, undef] := rfl
  rw [e]
  clear e
  have HAF := Lib.hid (after_any L cr r c now gen age 7 (.iface 125 (.string s)) chs w.drew HS.out.drew hlen HW.out (.inr (.inr ⟨s, rfl, rfl⟩)) HH.out)
  go_upto_region 2 with fail
  go_region_held3 (fun w' => w'.cell? ⟨bx, 0, none⟩ = some (.pointer (some ⟨L.cb, 0, none⟩)) ∧ w'.cell? ⟨bg, 0, none⟩ = some (.int .u64 gen) ∧ w'.cell? ⟨ba, 0, none⟩ = some (.int .u64 age)) (first | (go_keep; done) | ((try dsimp only); exact ⟨p1, p2, p3⟩))
    ((first
      | (go_at_call 73; refine (panicked_any s _).mono ?_; rintro e wq ⟨rfl, rfl⟩)
      | (go_at_call 63; refine HAF.out.mono ?_; rintro e w3 ⟨rfl, cr3, s3, k3, m3⟩; have p1 := blk_cell (m3.heap (heap_drew HX.out) px) 0; have p2 := blk_cell (m3.heap (heap_drew HG.out) pg) 0; have p3 := blk_cell (m3.heap (heap_drew HA.out) pa) 0; simp at p1 p2 p3)))
  go_wp2_with fail
  exact ⟨rfl, _, rfl, rfl, rfl, cr3, s3, k3, ((Mod.refl _ w).drew).trans m3⟩

end Go.Proofs.YtcjklacfoldaoaaGreat
