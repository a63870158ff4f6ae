/- A breaker with its surroundings, and what a step may change; contract of setState. Conditions: the breaker, its bed and its rules lie in their blocks, the numbers are in their ranges. -/
import Derived.Test.YtcjklacfoldaoaaGen
import Derived.Test.YtcjklacfoldaoaaBed
namespace Go.Proofs.Ytcjklacfoldaoaa
open Go.RowKit
attribute [local go_sem ↓] Go.wp_at_zero Go.wp_at_succ

structure Loc.Free (L : Loc) (cr : Nat) : Prop where
  cb : cr ≠ L.cb
  rc : cr ≠ L.rc
  bk : cr ≠ L.bk
  bd : cr ≠ L.bd
  bp : cr ≠ L.bp
  rb : cr ≠ L.rb
  rs : cr ≠ L.rs

/-- A breaker with its surroundings. -/
structure Sys (w : World) (L : Loc) (cr : Nat) (r : Rules) (c : CB) (now : Int) (chs : List (Int × Int)) : Prop where
  cb : CBat w L r c
  bed : BedAt w L cr now chs
  rb : w.heap[L.rb]? = some (.cells (rulesArr r) 24 (0, 0))
  rs : w.heap[L.rs]? = some (.cells (rulesArr r) 24 (0, 0))
  lok : L.Ok
  rok : r.Ok
  ok : c.Ok
  now0 : -3000000000000000000 ≤ now
  now1 : now ≤ 3000000000000000000
  crlt : cr < w.heap.size
  free : L.Free cr

/-- What a step leaves: the breaker anew; nothing else has changed. -/
def Evo (L : Loc) (r : Rules) (w : World) (cr : Nat) (w' : World) (c : CB) (now : Int) (chs : List (Int × Int)) : Prop :=
  ∃ cr', Sys w' L cr' r c now chs ∧ (cr' = cr ∨ w.heap.size ≤ cr') ∧ Mod [L.cb, L.rc, L.bk, L.bd, cr] w w'

theorem Evo.trans {L : Loc} {r : Rules} {w w1 w2 : World} {cr : Nat} {c1 c2 : CB} {n1 n2 : Int} {h1 h2 : List (Int × Int)} (a : Evo L r w cr w1 c1 n1 h1) (b : ∀ cr1, Sys w1 L cr1 r c1 n1 h1 → Evo L r w1 cr1 w2 c2 n2 h2) : Evo L r w cr w2 c2 n2 h2 := by
  obtain ⟨cr1, s1, k1, m1⟩ := a
  obtain ⟨cr2, s2, k2, m2⟩ := b cr1 s1
  refine ⟨cr2, s2, ?_, ?_⟩
  · have := m1.size
    rcases k2 with rfl | k2
    · exact k1
    · exact .inr (by omega)
  · refine m1.trans_new m2 ?_
    intro i hi
    simp at hi ⊢
    rcases hi with h | h | h | h | h
    · exact .inl (.inl h)
    · exact .inl (.inr (.inl h))
    · exact .inl (.inr (.inr (.inl h)))
    · exact .inl (.inr (.inr (.inr (.inl h))))
    · subst h; rcases k1 with e | e
      · exact .inl (.inr (.inr (.inr (.inr e))))
      · exact .inr e

theorem Evo.after {L : Loc} {r : Rules} {w w1 w2 : World} {cr : Nat} {c2 : CB} {n2 : Int} {h2 : List (Int × Int)} (m : Mod [L.cb, L.rc, L.bk, L.bd, cr] w w1) (e : Evo L r w1 cr w2 c2 n2 h2) : Evo L r w cr w2 c2 n2 h2 := by
  obtain ⟨cr', s, k, m'⟩ := e
  refine ⟨cr', s, ?_, m.trans m'⟩
  rcases k with k | k
  · exact .inl k
  · have := m.size; exact .inr (by omega)

section
variable {w w' : World} {L : Loc} {cr : Nat} {r : Rules} {c : CB} {now : Int} {chs : List (Int × Int)}
/-- Nothing of it has been written. -/
theorem Sys.keep {S : List Nat} (h : Sys w L cr r c now chs) (hm : Mod S w w') (h1 : L.cb ∉ S) (h2 : L.rc ∉ S) (h3 : L.bk ∉ S) (h4 : L.bd ∉ S) (h5 : L.bp ∉ S) (h6 : L.rb ∉ S) (h7 : L.rs ∉ S) (h8 : cr ∉ S) : Sys w' L cr r c now chs :=
  ⟨h.cb.keep hm h1 h2 h3, h.bed.keep hm h5 h4 h8, hm.heap h.rb h6, hm.heap h.rs h7, h.lok, h.rok, h.ok, h.now0, h.now1, Nat.lt_of_lt_of_le h.crlt hm.size, h.free⟩
theorem Sys.below (h : Sys w L cr r c now chs) (hm : Below w.heap.size w w') : Sys w' L cr r c now chs := h.keep (S := []) (Mod.of_below hm) (by simp) (by simp) (by simp) (by simp) (by simp) (by simp) (by simp) (by simp)
theorem Sys.drew (h : Sys w L cr r c now chs) : Sys w.drew L cr r c now chs := h.keep (S := []) (Mod.refl [] w).drew (by simp) (by simp) (by simp) (by simp) (by simp) (by simp) (by simp) (by simp)
theorem Sys.drewN (h : Sys w L cr r c now chs) (n : Nat) : Sys (w.drewN n) L cr r c now chs := h.keep (S := []) ((Mod.refl [] w).drewN n) (by simp) (by simp) (by simp) (by simp) (by simp) (by simp) (by simp) (by simp)
theorem Sys.alloc (h : Sys w L cr r c now chs) (o : Obj) : Sys (w.alloc o) L cr r c now chs := h.keep (S := []) ((Mod.refl [] w).alloc o) (by simp) (by simp) (by simp) (by simp) (by simp) (by simp) (by simp) (by simp)
/-- The breaker alone has been written. -/
theorem Sys.withCb (h : Sys w L cr r c now chs) {c' : CB} (hc : CBat w' L r c') (ok : c'.Ok) (hm : Mod [L.cb, L.rc, L.bk] w w') : Sys w' L cr r c' now chs :=
  ⟨hc, h.bed.keep hm (by simp [h.lok.cb_bp.symm, h.lok.rc_bp.symm, h.lok.bk_bp.symm]) (by simp [h.lok.cb_bd.symm, h.lok.rc_bd.symm, h.lok.bk_bd.symm]) (by simp [h.free.cb, h.free.rc, h.free.bk]),
    hm.heap h.rb (by simp [h.lok.cb_rb.symm, h.lok.rc_rb.symm, h.lok.bk_rb.symm]), hm.heap h.rs (by simp [h.lok.cb_rs.symm, h.lok.rc_rs.symm, h.lok.bk_rs.symm]), h.lok, h.rok, ok, h.now0, h.now1, Nat.lt_of_lt_of_le h.crlt hm.size, h.free⟩
theorem Sys.lts (h : Sys w L cr r c now chs) : L.cb < w.heap.size ∧ L.rc < w.heap.size ∧ L.bk < w.heap.size ∧ L.bd < w.heap.size ∧ L.bp < w.heap.size ∧ L.rb < w.heap.size ∧ L.rs < w.heap.size := by
  obtain ⟨v, hv, _⟩ := h.bed.bd
  exact ⟨size_of_heap h.cb.cb, size_of_heap h.cb.rc.1, size_of_heap h.cb.rc.2, size_of_heap hv, size_of_heap h.bed.bp, size_of_heap h.rb, size_of_heap h.rs⟩
/-- The bed has been written: the changes are others. -/
theorem Sys.withBed (h : Sys w L cr r c now chs) {chs' : List (Int × Int)} {now' : Int} (hb : ∃ cr', BedAt w' L cr' now' chs' ∧ (cr' = cr ∨ w.heap.size ≤ cr') ∧ cr' < w'.heap.size) (hm : Mod [L.bd, cr] w w') (n0 : -3000000000000000000 ≤ now') (n1 : now' ≤ 3000000000000000000) : Evo L r w cr w' c now' chs' := by
  obtain ⟨cr', hb, hk, hl⟩ := hb
  obtain ⟨z1, z2, z3, z4, z5, z6, z7⟩ := h.lts
  have hfree : L.Free cr' := by
    rcases hk with rfl | hk
    · exact h.free
    · exact ⟨by omega, by omega, by omega, by omega, by omega, by omega, by omega⟩
  refine ⟨cr', ⟨h.cb.keep hm ?_ ?_ ?_, hb, hm.heap h.rb ?_, hm.heap h.rs ?_, h.lok, h.rok, h.ok, n0, n1, hl, hfree⟩, hk, hm.mono ?_⟩
  · simp [h.lok.cb_bd, h.free.cb.symm]
  · simp [h.lok.rc_bd, h.free.rc.symm]
  · simp [h.lok.bk_bd, h.free.bk.symm]
  · simp [h.lok.bd_rb.symm, h.free.rb.symm]
  · simp [h.lok.bd_rs.symm, h.free.rs.symm]
  · intro i hi; simp at hi ⊢; rcases hi with e | e
    · exact .inr (.inr (.inr (.inl e)))
    · exact .inr (.inr (.inr (.inr e)))
end

theorem CB.newGen_ok {c : CB} (ok : c.Ok) (now : Int) : (c.newGen now).Ok :=
  ⟨by simpa [CB.newGen, RC.clear] using ok.pos, by simpa [CB.newGen, RC.clear] using ok.few, by simp [CB.newGen, RC.clear], by simp [CB.newGen, RC.clear], ok.int0, ok.int1, ok.per0, ok.per1, ok.tim0, ok.tim1, ok.st0, ok.st1⟩
theorem CB.state_ok {c : CB} (ok : c.Ok) {st : Int} (h0 : 0 ≤ st) (h1 : st ≤ 2) : ({ c with state := st } : CB).Ok :=
  ⟨ok.pos, ok.few, ok.age0, ok.age1, ok.int0, ok.int1, ok.per0, ok.per1, ok.tim0, ok.tim1, h0, h1⟩

/-- The state becomes another. -/
def CB.setState (c : CB) (st now : Int) : CB := if c.state = st then c else ({ c with state := st } : CB).newGen now
def CB.setTold (c : CB) (st : Int) : List (Int × Int) := if c.state = st then [] else [(c.state, st)]

theorem ne_func_nil (fn : Fn) (first cap : Array Value) (w : World) : (binOp .neq 80 (.func fn first cap) .nilFunc).run Try.prog w = .ok (.bool true) w := by kernel_rfl

set_option maxHeartbeats 1000000 in
theorem setState_any (L : Loc) (cr : Nat) (r : Rules) (c : CB) (now : Int) (chs : List (Int × Int)) (st : Int) (w : World) (h : Sys w L cr r c now chs) (hlen : chs.length ≤ 1000000) (h0 : 0 ≤ st) (h1 : st ≤ 2) (hne : c.state ≠ st) :
    Calls Try.prog 96 #[.pointer (some ⟨L.cb, 0, none⟩), .int .i64 st, .agg #[.int .u64 (NS now), .int .i64 (SEC now), .pointer none]] w fun e w' => e = .returned (.tuple #[]) ∧ Evo L r w cr w' (({ c with state := st } : CB).newGen now) now (chs ++ [(c.state, st)]) := by
  obtain ⟨hc, hf⟩ := h.cb.cells
  have g10 := hc 10
  simp at g10
  have HS := Lib.hid h
  obtain ⟨z1, z2, z3, z4, z5, z6, z7⟩ := h.lts
  have hne' : (c.state == st) = false := by simpa using hne
  clear h hc hne
  have qn := ne_func_nil
  go_enter Try.func96, Try.ntmps96
  go_wp2_with fail
  have A1 := Lib.hid ((HS.out.cb.setState HS.out.lok st).alloc (Obj.cells #[Value.int IntKind.u64 (NS now), Value.int IntKind.i64 (SEC now), Value.pointer none] 118))
  have M1 := Lib.hid (((Mod.refl [L.cb, L.rc, L.bk] w).setCell ⟨L.cb, 10, none⟩ (.int .i64 st) (by simp)).alloc (Obj.cells #[Value.int IntKind.u64 (NS now), Value.int IntKind.i64 (SEC now), Value.pointer none] 118))
  refine (newGen_any L r { c with state := st } now _ A1.out HS.out.lok (CB.state_ok HS.out.ok h0 h1) HS.out.now0 HS.out.now1).mono ?_
  rintro e w2 ⟨rfl, hcb2, hm2⟩
  have S2 := Lib.hid (HS.out.withCb hcb2 (CB.newGen_ok (CB.state_ok HS.out.ok h0 h1) now) (M1.out.trans hm2))
  have M2 := Lib.hid (M1.out.trans hm2)
  obtain ⟨hc, hf⟩ := hcb2.cells
  have g1 := hc 1
  have g9 := hc 9
  simp [chV] at g1 g9
  clear hcb2 hm2 hc
  go_wp2_with fail
  go_region_held3 (fun w' => w'.cell? ⟨L.cb, 1, none⟩ = some (.string r.name) ∧ w'.cell? ⟨L.cb, 9, none⟩ = some (.func (.func 55) #[] #[.pointer (some ⟨L.bp, 0, none⟩)])) (first | (go_keep; done) | ((try dsimp only); exact ⟨p1, p9⟩))
    ((first | (go_at_call 55; refine (change_any L cr now chs c.state st r.name _ (by exact S2.out.bed.drew) hlen HS.out.lok.bd_bp.symm HS.out.free.bp HS.out.free.bd).mono ?_; rintro e w3 ⟨rfl, hb3, hm3⟩; obtain ⟨c3, _, _, _⟩ := keptM hm3 (heap_drew S2.out.cb.cb) (by simp [HS.out.lok.cb_bd, HS.out.free.cb.symm]); have p1 := c3 1; have p9 := c3 9; simp [cbArr, chV] at p1 p9; clear c3)))
  go_end0
  refine ⟨rfl, ?_⟩
  obtain ⟨cr', s3, k3, m3⟩ := S2.out.drew.withBed hb3 hm3 HS.out.now0 HS.out.now1
  refine ⟨cr', s3, ?_, ?_⟩
  · have := M2.out.size
    rcases k3 with e | e
    · exact .inl e
    · exact .inr (by simp at e; omega)
  · exact (M2.out.mono (by simp)).drew.trans m3

end Go.Proofs.Ytcjklacfoldaoaa
