/- Contracts of the breaker of two steps: State, Counts, ZZGeneration, Allow and what Allow hands back. Conditions: the breaker, its bed and its rules lie in their blocks, the numbers are in their ranges. -/
import Derived.Test.YtcjklacfoldaoaaSmall
namespace Go.Proofs.Ytcjklacfoldaoaa
open Go.RowKit
attribute [local go_sem ↓] Go.wp_at_zero Go.wp_at_succ

/-- A block of others: no step of the breaker writes it. -/
def Sep (L : Loc) (cr b : Nat) : Prop := b ∉ [L.cb, L.rc, L.bk, L.bd, cr]

theorem Sep.next {L : Loc} {cr cr' b : Nat} {w : World} (h : Sep L cr b) (hb : b < w.heap.size) (k : cr' = cr ∨ w.heap.size ≤ cr') : Sep L cr' b := by
  unfold Sep at *
  rcases k with rfl | k
  · exact h
  · simp at h ⊢; exact ⟨h.1, h.2.1, h.2.2.1, h.2.2.2.1, by omega⟩
/-- A block that has just come is one of others. -/
theorem Sys.sep {w : World} {L : Loc} {cr : Nat} {r : Rules} {c : CB} {now : Int} {chs : List (Int × Int)} (h : Sys w L cr r c now chs) {b : Nat} (hb : w.heap.size ≤ b) : Sep L cr b := by
  obtain ⟨z1, z2, z3, z4, z5, z6, z7⟩ := h.lts
  have := h.crlt
  unfold Sep; simp; omega

/-- The breaker of two steps lies in block tw. -/
def TwoAt (w : World) (L : Loc) (tw : Nat) : Prop := w.heap[tw]? = some (.cells #[.pointer (some ⟨L.cb, 0, none⟩)] 115 (0, 0))

set_option maxHeartbeats 1000000 in
theorem twoState_any (L : Loc) (tw cr : Nat) (r : Rules) (c : CB) (now : Int) (chs : List (Int × Int)) (w : World) (h : Sys w L cr r c now chs) (ht : TwoAt w L tw) (hlen : chs.length ≤ 1000000) (hw : Win c now) :
    Calls Try.prog 35 #[.pointer (some ⟨tw, 0, none⟩)] w fun e w' => e = .returned (.int .i64 (c.look now).state) ∧ Evo L r w cr w' (c.look now) now (chs ++ c.lookTold now) := by
  have HS := Lib.hid h
  have HW := Lib.hid hw
  have t0 := blk_cell ht 0
  simp at t0
  clear h hw ht
  go_enter Try.func35, Try.ntmps35
  go_wp2_with fail
  refine (cbState_any L cr r c now chs _ HS.out hlen HW.out).mono ?_
  rintro e w1 ⟨rfl, hev⟩
  have E1 := Lib.hid hev
  clear hev
  go_wp2_with fail
  go_ret
  exact ⟨rfl, E1.out⟩

set_option maxHeartbeats 1000000 in
theorem twoCounts_any (L : Loc) (tw : Nat) (r : Rules) (c : CB) (w : World) (h : CBat w L r c) (ht : TwoAt w L tw) :
    Calls Try.prog 40 #[.pointer (some ⟨tw, 0, none⟩)] w fun e w' => e = .returned (.agg #[.int .u32 c.rc.tot.r, .int .u32 c.rc.tot.s, .int .u32 c.rc.tot.f, .int .u32 c.rc.tot.x, .int .u32 c.rc.tot.g, .int .u32 c.rc.tot.h]) ∧ Below w.heap.size w w' := by
  have HS := Lib.hid h
  have t0 := blk_cell ht 0
  have zt := size_of_heap ht
  simp at t0
  clear h ht
  go_enter Try.func40, Try.ntmps40
  go_wp2_with fail
  refine (cbCounts_any L r c _ (HS.out.alloc _)).mono ?_
  rintro e w1 ⟨rfl, hb⟩
  obtain ⟨c1, f1, hz, _⟩ := kept hb (heap_alloc_new w _)
  go_wp2_with fail
  refine bodyPost_ret (v := .agg #[.int .u32 c.rc.tot.r, .int .u32 c.rc.tot.s, .int .u32 c.rc.tot.f, .int .u32 c.rc.tot.x, .int .u32 c.rc.tot.g, .int .u32 c.rc.tot.h]) (by simp [results, Try.results40, go_sem, c1]) rfl ⟨rfl, ?_⟩
  exact ((((((((Below.refl _ _).alloc (Nat.le_refl _) _).trans (hb.mono (by simp))).setCell (Nat.le_refl _) _).setCell (Nat.le_refl _) _).setCell (Nat.le_refl _) _).setCell (Nat.le_refl _) _).setCell (Nat.le_refl _) _).setCell (Nat.le_refl _) _

set_option maxHeartbeats 1000000 in
theorem twoGen_any (L : Loc) (tw : Nat) (r : Rules) (c : CB) (w : World) (h : CBat w L r c) (ht : TwoAt w L tw) :
    Calls Try.prog 34 #[.pointer (some ⟨tw, 0, none⟩)] w fun e w' => e = .returned (.int .u64 c.gen) ∧ w = w' := by
  have t0 := blk_cell ht 0
  have g11 := h.cells.1 11
  simp at t0 g11
  clear h ht
  go_enter Try.func34, Try.ntmps34
  go_wp2
  go_ret
  exact ⟨rfl, rfl⟩

/-- What Allow hands back for a request that may go: it holds the breaker, the number and the age. -/
structure DoneAt (w : World) (L : Loc) (tw cr : Nat) (v : Value) (gen age : Int) : Prop where
  form : ∃ b g a, v = .func (.func 60) #[] #[.pointer (some ⟨b, 0, none⟩), .pointer (some ⟨g, 0, none⟩), .pointer (some ⟨a, 0, none⟩)] ∧
    w.heap[b]? = some (.cells #[.pointer (some ⟨tw, 0, none⟩)] 75 (0, 0)) ∧ w.heap[g]? = some (.cells #[.int .u64 gen] 37 (0, 0)) ∧ w.heap[a]? = some (.cells #[.int .u64 age] 37 (0, 0)) ∧
    Sep L cr b ∧ Sep L cr g ∧ Sep L cr a

theorem DoneAt.next {w w' : World} {L : Loc} {tw cr cr' : Nat} {v : Value} {gen age : Int} (h : DoneAt w L tw cr v gen age) (k : cr' = cr ∨ w.heap.size ≤ cr') (m : Mod [L.cb, L.rc, L.bk, L.bd, cr] w w') : DoneAt w' L tw cr' v gen age := by
  obtain ⟨b, g, a, hv, h1, h2, h3, s1, s2, s3⟩ := h.form
  exact ⟨b, g, a, hv, m.heap h1 s1, m.heap h2 s2, m.heap h3 s3, s1.next (size_of_heap h1) k, s2.next (size_of_heap h2) k, s3.next (size_of_heap h3) k⟩

theorem ne_data_nil (s : ByteArray) (w : World) : (binOp .neq 91 (.iface 127 (.string s)) .nilIface).run Try.prog w = .ok (.bool true) w := by kernel_rfl
theorem ne_nil_nil (w : World) : (binOp .neq 91 .nilIface .nilIface).run Try.prog w = .ok (.bool false) w := by kernel_rfl
theorem codeV_data {n : Int} (h : n = 1 ∨ n = 2) : ∃ s, codeV n = .iface 127 (.string s) := by
  rcases h with rfl | rfl
  · exact ⟨_, rfl⟩
  · exact ⟨_, rfl⟩

set_option maxHeartbeats 1000000 in
theorem allow_no (L : Loc) (tw cr : Nat) (r : Rules) (c : CB) (now : Int) (chs : List (Int × Int)) (w : World) (h : Sys w L cr r c now chs) (ht : TwoAt w L tw) (hlen : chs.length ≤ 1000000) (hw : Win c now) (hcode : (c.look now).beforeCode = 1 ∨ (c.look now).beforeCode = 2) :
    Calls Try.prog 36 #[.pointer (some ⟨tw, 0, none⟩)] w fun e w' => e = .returned (.tuple #[.nilFunc, codeV (c.look now).beforeCode]) ∧ Evo L r w cr w' (c.look now).before1 now (chs ++ c.lookTold now) := by
  have HS := Lib.hid (h.alloc (Obj.cells #[Value.pointer (some ⟨tw, 0, none⟩)] 75))
  have MM := Lib.hid ((Mod.refl [L.cb, L.rc, L.bk, L.bd, cr] w).alloc (Obj.cells #[Value.pointer (some ⟨tw, 0, none⟩)] 75))
  have HW := Lib.hid hw
  have t0 := blk_cell ht 0
  have zt := size_of_heap ht
  simp at t0
  have qn := ne_data_nil
  obtain ⟨s, hs⟩ := codeV_data hcode
  have HC := Lib.hid hs
  rw [hs]
  clear h hw ht hs hcode
  go_enter Try.func36, Try.ntmps36
  go_wp2_with fail
  refine (beforeReq_any L cr r c now chs _ HS.out hlen HW.out).mono ?_
  rintro e w1 ⟨rfl, hev⟩
  have E1 := Lib.hid (Evo.after MM.out hev)
  clear hev
  rw [HC.out]
  go_wp2_with fail
  go_ret2
  obtain ⟨cr1, s1, k1, m1⟩ := E1.out
  exact ⟨rfl, cr1, (s1.alloc _).alloc _, k1, (m1.alloc _).alloc _⟩

set_option maxHeartbeats 1000000 in
theorem allow_yes (L : Loc) (tw cr : Nat) (r : Rules) (c : CB) (now : Int) (chs : List (Int × Int)) (w : World) (h : Sys w L cr r c now chs) (ht : TwoAt w L tw) (hlen : chs.length ≤ 1000000) (hw : Win c now) (hcode : (c.look now).beforeCode = 0) :
    Calls Try.prog 36 #[.pointer (some ⟨tw, 0, none⟩)] w fun e w' => ∃ v cr', e = .returned (.tuple #[v, .nilIface]) ∧ Sys w' L cr' r (c.look now).before1 now (chs ++ c.lookTold now) ∧ (cr' = cr ∨ w.heap.size ≤ cr') ∧ Mod [L.cb, L.rc, L.bk, L.bd, cr] w w' ∧ DoneAt w' L tw cr' v (c.look now).gen (c.look now).rc.age := by
  have HS := Lib.hid (h.alloc (Obj.cells #[Value.pointer (some ⟨tw, 0, none⟩)] 75))
  have MM := Lib.hid ((Mod.refl [L.cb, L.rc, L.bk, L.bd, cr] w).alloc (Obj.cells #[Value.pointer (some ⟨tw, 0, none⟩)] 75))
  have BB := Lib.hid (heap_alloc_new w (Obj.cells #[Value.pointer (some ⟨tw, 0, none⟩)] 75))
  have SB := Lib.hid (h.sep (Nat.le_refl _))
  have HW := Lib.hid hw
  have t0 := blk_cell ht 0
  have zt := size_of_heap ht
  simp at t0
  have qn := ne_nil_nil
  have HC := Lib.hid hcode
  have hmf : ∀ (fn : Fn) (first cap : Array Value) (w : World), (Instr.makeFunc fn first cap).run Try.prog w = .ok (.func fn first cap) w := fun _ _ _ _ => rfl
  clear h hw ht hcode
  go_enter Try.func36, Try.ntmps36
  go_wp2_with fail
  refine (beforeReq_any L cr r c now chs _ HS.out hlen HW.out).mono ?_
  rintro e w1 ⟨rfl, hev⟩
  obtain ⟨cr1, s1, k1, m1⟩ := hev
  have S1 := Lib.hid s1
  have K1 := Lib.hid k1
  have M1 := Lib.hid m1
  clear s1 k1 m1
  rw [HC.out]
  have e0 : codeV 0 = .nilIface := rfl
  rw [e0]
  go_wp2_with fail
  go_ret2
  have zw : w.heap.size < w1.heap.size := by have := M1.out.size; simp at this; omega
  have k1 : cr1 = cr ∨ w.heap.size ≤ cr1 := by
    rcases K1.out with e | e
    · exact .inl e
    · exact .inr (by simp at e; omega)
  refine ⟨_, cr1, rfl, (S1.out.alloc _).alloc _, k1, (((MM.out.trans M1.out).alloc _).alloc _), ?_⟩
  refine ⟨⟨w.heap.size, w1.heap.size, w1.heap.size + 1, rfl, ?_, ?_, ?_, ?_, ?_, ?_⟩⟩
  · exact heap_alloc_lt (heap_alloc_lt (M1.out.heap BB.out SB.out))
  · exact heap_alloc_lt (heap_alloc_new w1 _)
  · exact heap_alloc_at (by simp)
  · exact SB.out.next (by simp : w.heap.size < (w.alloc (Obj.cells #[Value.pointer (some ⟨tw, 0, none⟩)] 75)).heap.size) K1.out
  · exact S1.out.sep (Nat.le_refl _)
  · exact S1.out.sep (Nat.le_succ _)

set_option maxRecDepth 100000 in
set_option maxHeartbeats 1000000 in
theorem done_any (L : Loc) (tw cr : Nat) (r : Rules) (c : CB) (now prev age n : Int) (v f : Value) (chs : List (Int × Int)) (w : World) (h : Sys w L cr r c now chs) (ht : TwoAt w L tw) (hts : Sep L cr tw) (hd : DoneAt w L tw cr f prev age) (hlen : chs.length ≤ 999999) (hw : Win c now) (hv : ErrIs v n) (hit : (c.look now).gen = prev → Hit (c.look now) age) :
    ∃ cap, f = .func (.func 60) #[] cap ∧ Calls Try.prog 60 (#[v] ++ cap) w fun e w' => e = .returned (.tuple #[]) ∧ Evo L r w cr w' (c.after r prev age n now) now (chs ++ c.afterTold r prev age n now) := by
  obtain ⟨b, g, a, hf, h1, h2, h3, s1, s2, s3⟩ := hd.form
  refine ⟨_, hf, ?_⟩
  simp only [List.append_toArray, List.cons_append, List.nil_append]
  have c1 := blk_cell h1 0
  have c2 := blk_cell h2 0
  have c3 := blk_cell h3 0
  have c4 := blk_cell ht 0
  simp at c1 c2 c3 c4
  have HS := Lib.hid h
  have HW := Lib.hid hw
  have HV := Lib.hid hv
  have HI := Lib.hid hit
  have H1 := Lib.hid h1
  have H2 := Lib.hid h2
  have H3 := Lib.hid h3
  have H4 := Lib.hid ht
  have Q1 := Lib.hid s1
  have Q2 := Lib.hid s2
  have Q3 := Lib.hid s3
  have Q4 := Lib.hid hts
  clear h hw hv hit h1 h2 h3 ht s1 s2 s3 hts hf hd
  go_enter Try.func60, Try.ntmps60
  go_region_held3 (fun w' => w'.cell? ⟨b, 0, none⟩ = some (.pointer (some ⟨tw, 0, none⟩)) ∧ w'.cell? ⟨tw, 0, none⟩ = some (.pointer (some ⟨L.cb, 0, none⟩)) ∧ w'.cell? ⟨g, 0, none⟩ = some (.int .u64 prev) ∧ w'.cell? ⟨a, 0, none⟩ = some (.int .u64 age)) (first | (go_keep; done) | ((try dsimp only); exact ⟨p1, p4, p2, p3⟩))
    ((first | (go_at_call 61; refine (after_any L cr r c now prev age n v chs _ (by exact HS.out.drew) hlen HW.out HV.out HI.out).mono ?_; rintro e w2 ⟨rfl, hev⟩; have E2 := Lib.hid hev; obtain ⟨crx, sx, kx, mx⟩ := hev; have p1 := blk_cell (mx.heap (heap_drew H1.out) Q1.out) 0; have p2 := blk_cell (mx.heap (heap_drew H2.out) Q2.out) 0; have p3 := blk_cell (mx.heap (heap_drew H3.out) Q3.out) 0; have p4 := blk_cell (mx.heap (heap_drew H4.out) Q4.out) 0; simp at p1 p2 p3 p4; clear sx kx mx)))
  go_end0
  refine ⟨rfl, ?_⟩
  exact Evo.after (Mod.refl _ w).drew E2.out

end Go.Proofs.Ytcjklacfoldaoaa
