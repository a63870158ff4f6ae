/- Contracts of the closures about Execute, where the request does not panic. Conditions: the breaker and its bed lie in their blocks, the numbers are in their ranges. -/
import Derived.Test.YtcjklacfoldaoaaTwo
import Derived.Defers
import Derived.Recover
import Derived.Laws.Pointers
import Derived.Deep.RegionHeld3
import Derived.BigQuiet
import Derived.Deep.QuietTactic
import Derived.Deep.DeepCutAuto
import Derived.Deep.CutBlock
namespace Go.Proofs.Ytcjklacfoldaoaa
open Go.RowKit
attribute [local go_sem ↓] Go.wp_at_zero Go.wp_at_succ

theorem Evo.tock {w : World} {L : Loc} {cr : Nat} {r : Rules} {c : CB} {now : Int} {chs : List (Int × Int)} (h : Sys w L cr r c now chs) {now' : Int} (n0 : -3000000000000000000 ≤ now') (n1 : now' ≤ 3000000000000000000) : Evo L r w cr (w.setCell ⟨L.bd, 0, none⟩ (.int .i64 now')) c now' chs := by
  obtain ⟨v, hv, ho, hr⟩ := h.bed.bd
  refine h.withBed ⟨cr, ⟨heap_set_other h.bed.bp h.lok.bd_bp.symm, v, (heap_set_same hv).trans (by simp), owns_keep ho ?_, hr⟩, .inl rfl, by simpa using h.crlt⟩ ((Mod.refl _ w).setCell _ _ (by simp)) n0 n1
  intro g hg
  refine Below.heap_setCell _ _ _ _ ?_
  rcases hr with e | e
  · rw [e] at hg; cases hg
  · rw [e] at hg; simp at hg; subst hg; exact h.free.bd


theorem fault_q (n : Int) (W : World) (m : Nat) : Calls Try.prog 38 #[.int .i64 n] (W.drewN m) fun e w' => e = .returned (errV n) ∧ ∃ j, w' = (W.drewN m).drewN j :=
  (fault_any n (W.drewN m)).mono fun _ _ ⟨a, hm⟩ => ⟨a, 0, hm.symm⟩
structure Call where
  wait : Int
  long : Int
  val : Int
  err : Int
  pan : Bool
structure Told where
  ran : Bool
  val : Int
  err : Int
  pan : Bool
  cnt : Cnt
def callRow (k : Call) : List Value := [.int .i64 k.wait, .int .i64 k.long, .int .i64 k.val, .int .i64 k.err, .bool k.pan]
def toldRow (t : Told) : List Value := [.bool t.ran, .int .i64 t.val, .int .i64 t.err, .bool t.pan, .int .u32 t.cnt.r, .int .u32 t.cnt.s, .int .u32 t.cnt.f, .int .u32 t.cnt.x, .int .u32 t.cnt.g, .int .u32 t.cnt.h]
def toldArr (t : Told) : Array Value := #[.bool t.ran, .int .i64 t.val, .int .i64 t.err, .bool t.pan, .int .u32 t.cnt.r, .int .u32 t.cnt.s, .int .u32 t.cnt.f, .int .u32 t.cnt.x, .int .u32 t.cnt.g, .int .u32 t.cnt.h]
def callArr (k : Call) : Array Value := #[.int .i64 k.wait, .int .i64 k.long, .int .i64 k.val, .int .i64 k.err, .bool k.pan]
def Told.zero : Told := ⟨false, 0, 0, false, Cnt.zero⟩

/-- What the closures hold: the told, the variable with the bed's address, the call. -/
structure Lay (w : World) (L : Loc) (cr bt xb xc : Nat) (k : Call) (t : Told) : Prop where
  told : w.heap[bt]? = some (.cells (toldArr t) 63 (0, 0))
  bed : w.heap[xb]? = some (.cells #[.pointer (some ⟨L.bd, 0, none⟩)] 72 (0, 0))
  call : w.heap[xc]? = some (.cells (callArr k) 57 (0, 0))
  st : Sep L cr bt
  sb : Sep L cr xb
  sc : Sep L cr xc
theorem Lay.ne {w : World} {L : Loc} {cr bt xb xc : Nat} {k : Call} {t : Told} (h : Lay w L cr bt xb xc k t) : bt ≠ xb ∧ bt ≠ xc ∧ xb ≠ xc := by
  refine ⟨?_, ?_, ?_⟩
  · rintro rfl; have := h.told.symm.trans h.bed; simp at this
  · rintro rfl; have := h.told.symm.trans h.call; simp at this
  · rintro rfl; have := h.bed.symm.trans h.call; simp at this
theorem Lay.go {w w' : World} {L : Loc} {cr cr' bt xb xc : Nat} {k : Call} {t : Told} (h : Lay w L cr bt xb xc k t) (q : cr' = cr ∨ w.heap.size ≤ cr') (m : Mod [L.cb, L.rc, L.bk, L.bd, cr] w w') : Lay w' L cr' bt xb xc k t :=
  ⟨m.heap h.told h.st, m.heap h.bed h.sb, m.heap h.call h.sc, h.st.next (size_of_heap h.told) q, h.sb.next (size_of_heap h.bed) q, h.sc.next (size_of_heap h.call) q⟩
theorem Lay.set {w w' : World} {L : Loc} {cr bt xb xc : Nat} {k : Call} {t t' : Told} (h : Lay w L cr bt xb xc k t) (m : Mod [bt] w w') (ht : w'.heap[bt]? = some (.cells (toldArr t') 63 (0, 0))) : Lay w' L cr bt xb xc k t' :=
  ⟨ht, m.heap h.bed (by simpa using h.ne.1.symm), m.heap h.call (by simpa using h.ne.2.1.symm), h.st, h.sb, h.sc⟩
theorem Lay.below {w w' : World} {L : Loc} {cr bt xb xc : Nat} {k : Call} {t : Told} (h : Lay w L cr bt xb xc k t) (b : Below w.heap.size w w') : Lay w' L cr bt xb xc k t := h.go (.inl rfl) (Mod.of_below b)

/-- The breaker has gone on, and the told has been written. -/
def EvoL (L : Loc) (r : Rules) (w : World) (cr bt xb xc : Nat) (k : Call) (w' : World) (c' : CB) (now' : Int) (chs' : List (Int × Int)) (t' : Told) : Prop :=
  ∃ cr', Sys w' L cr' r c' now' chs' ∧ Lay w' L cr' bt xb xc k t' ∧ (cr' = cr ∨ w.heap.size ≤ cr') ∧ Mod [L.cb, L.rc, L.bk, L.bd, cr, bt] w w'

/-- The told has been written: what the breaker is made of is as it was. -/
theorem Sys.told {w w' : World} {L : Loc} {cr bt xb xc : Nat} {r : Rules} {c : CB} {now : Int} {chs : List (Int × Int)} {k : Call} {t : Told} (h : Sys w L cr r c now chs) (hl : Lay w L cr bt xb xc k t) (m : Mod [bt] w w') : Sys w' L cr r c now chs := by
  have n {g : Nat} {x : Array Value} {U : TypeId} (hk : w.heap[g]? = some (.cells x U (0, 0))) (hu : U ≠ 63) : g ∉ [bt] := by
    simp; rintro rfl; have := hl.told; rw [hk] at this; simp at this; exact hu this.2
  have hs := hl.st
  unfold Sep at hs
  simp at hs
  exact h.keep m (by simp; omega) (by simp; omega) (by simp; omega) (by simp; omega) (n h.bed.bp (by decide)) (n h.rb (by decide)) (n h.rs (by decide)) (by simp; omega)

set_option maxRecDepth 100000 in
set_option maxHeartbeats 2000000 in
/-- The request: it takes its time, and returns. -/
theorem fn_ok (L : Loc) (cr bt xb xc : Nat) (r : Rules) (c : CB) (now : Int) (chs : List (Int × Int)) (k : Call) (w : World) (h : Sys w L cr r c now chs) (hl : Lay w L cr bt xb xc k Told.zero) (hp : k.pan = false) (n0 : -3000000000000000000 ≤ now) (l0 : 0 ≤ k.long) (n1 : now + k.long ≤ 3000000000000000000) :
    Calls Try.prog 75 #[.pointer (some ⟨bt, 0, none⟩), .pointer (some ⟨xb, 0, none⟩), .pointer (some ⟨xc, 0, none⟩)] w fun e w' =>
      e = .returned (.tuple #[.int .i64 k.val, errV k.err]) ∧ EvoL L r w cr bt xb xc k w' c (now + k.long) chs ⟨true, 0, 0, false, Cnt.zero⟩ := by
  have HS := Lib.hid h
  have HL := Lib.hid hl
  have tc := blk_cell hl.told
  have tf := blk_free hl.told
  have xbc := blk_cell hl.bed 0
  have xcc := blk_cell hl.call
  have z1 := size_of_heap hl.told
  have z2 := size_of_heap hl.bed
  have z3 := size_of_heap hl.call
  simp at xbc
  have cc : ∀ i, w.cell? ⟨xc, i, none⟩ = #[.int .i64 k.wait, .int .i64 k.long, .int .i64 k.val, .int .i64 k.err, .bool false][i]? := by
    intro i; rw [xcc i]; unfold callArr; rw [hp]
  obtain ⟨bv, hbv, _, _⟩ := h.bed.bd
  have d0 := blk_cell hbv 0
  have d1 := blk_free hbv 0
  simp at d0
  have y0 := size_of_heap hbv
  obtain ⟨m1, m2, m3⟩ := hl.ne
  have s1 := hl.st
  have s2 := hl.sb
  have s3 := hl.sc
  unfold Sep at s1 s2 s3
  simp at s1 s2 s3
  obtain ⟨_, _, _, a4, _⟩ := s1
  obtain ⟨_, _, _, b4, _⟩ := s2
  obtain ⟨_, _, _, c4, _⟩ := s3
  have HBV := Lib.hid hbv
  have HP := Lib.hid hp
  clear h hl hbv xcc hp
  go_enter Try.func75, Try.ntmps75
  go_upto_region 2 with fail
  have m1 : Mod [bt] w (w.setCell ⟨bt, 0, none⟩ (.bool true)) := (Mod.refl _ w).setCell _ _ (by simp)
  have HT1 : (w.setCell ⟨bt, 0, none⟩ (.bool true)).heap[bt]? = some (Obj.cells (toldArr ⟨true, 0, 0, false, Cnt.zero⟩) 63 (0, 0)) := (heap_set_same HL.out.told).trans (by simp [toldArr, Told.zero])
  have L1 := Lib.hid (HL.out.set m1 HT1)
  have S1 := Lib.hid (HS.out.told HL.out m1)
  have M1 := Lib.hid m1
  clear tc tf xbc cc d0 d1 m1 HT1 HBV z1 z2 z3 y0
  generalize (w.setCell ⟨bt, 0, none⟩ (.bool true)) = w1 at *
  have xbc := blk_cell L1.out.bed 0
  simp at xbc
  have cc : ∀ i, w1.cell? ⟨xc, i, none⟩ = #[.int .i64 k.wait, .int .i64 k.long, .int .i64 k.val, .int .i64 k.err, .bool false][i]? := by
    intro i; rw [blk_cell L1.out.call i]; unfold callArr; rw [HP.out]
  obtain ⟨bv, hbv, _, _⟩ := S1.out.bed.bd
  have d0 := blk_cell hbv 0
  have d1 := blk_free hbv 0
  simp at d0
  have y0 := size_of_heap hbv
  have z3 := size_of_heap L1.out.call
  have z2 := size_of_heap L1.out.bed
  clear hbv
  go_region
  obtain ⟨cr2, s2, k2, m2⟩ := Evo.tock S1.out (now' := now + k.long) (by omega) n1
  have L2 := Lib.hid ((L1.out.go k2 m2).below ((Below.refl _ _).drew))
  have S2 := Lib.hid s2.drew
  have MM := Lib.hid (m2.drew)
  have K2 := Lib.hid k2
  clear s2 m2 k2 xbc cc d0 d1 y0 z3 z2
  generalize (w1.setCell ⟨L.bd, 0, none⟩ (.int .i64 (now + k.long))).drew = w2 at *
  have cc : ∀ i, w2.cell? ⟨xc, i, none⟩ = #[.int .i64 k.wait, .int .i64 k.long, .int .i64 k.val, .int .i64 k.err, .bool false][i]? := by
    intro i; rw [blk_cell L2.out.call i]; unfold callArr; rw [HP.out]
  go_upto_region 5 with fail
  go_quiet ((go_at_call 38; exact Calls.quiet_of (fault_q k.err _ _)))
  go_wp2_with fail
  go_ret2
  have b : Below w2.heap.size w2 (w2.drewN nq) := ⟨rfl, rfl, rfl, Nat.le_refl _, fun _ _ => rfl⟩
  refine ⟨rfl, cr2, S2.out.below b, L2.out.below b, ?_, ?_⟩
  · have := M1.out.size
    rcases K2.out with q | q
    · exact .inl q
    · exact .inr (by omega)
  · exact ((M1.out.mono (by simp)).trans (MM.out.mono (by simp))).trans (Mod.of_below b)

theorem hmf (fn : Fn) (first cap : Array Value) (w : World) : (Instr.makeFunc fn first cap).run Try.prog w = .ok (.func fn first cap) w := rfl

/-- The closure that the thin package defers finds nothing. -/
theorem catch_idle (p : Addr) (w : World) :
    CallsD Try.prog 73 #[.pointer (some p)] .returning w fun e u' w' => e = .returned (.tuple #[]) ∧ u' = .returning ∧ w' = w := by
  refine callsD_of_wpS Try.func73 rfl fun c₀ cs hu => ?_
  apply wpS_seq
  apply wpS_region
  simp [wpOpsS, go_sem, recoverD, hu, Try.ntmps73, Exit.thenS]
  refine wpS_cond (t := false) (by simp [Act.eval, Array.replicate]) ?_
  simp only [Bool.false_eq_true, if_false]
  refine wpS_of_wp (wp_skip ?_)
  cases c₀
  simp_all [bodyPostS, results, Try.results73]
/-- The closure that Execute defers finds nothing. -/
theorem catch2_idle (p q s : Addr) (w : World) :
    CallsD Try.prog 90 #[.pointer (some p), .pointer (some q), .pointer (some s)] .returning w fun e u' w' => e = .returned (.tuple #[]) ∧ u' = .returning ∧ w' = w := by
  refine callsD_of_wpS Try.func90 rfl fun c₀ cs hu => ?_
  apply wpS_seq
  apply wpS_region
  simp [wpOpsS, go_sem, recoverD, hu, Try.ntmps90, Exit.thenS]
  apply wpS_seq
  apply wpS_region
  simp [wpOpsS, go_sem, recoverD, hu, Exit.thenS]
  refine wpS_cond (t := false) (by simp [Act.eval, Array.replicate]) ?_
  simp only [Bool.false_eq_true, if_false]
  refine wpS_of_wp (wp_skip ?_)
  cases c₀
  simp_all [bodyPostS, results, Try.results90]

end Go.Proofs.Ytcjklacfoldaoaa
