/- What lies where in a round of the statements' TwoStep. No condition. -/
import Derived.Test.YtcjklacfoldaoaaSpecK
import Derived.Test.YtcjklacfoldaoaaPlayN
import Derived.Laws.OwnMore
namespace Go.Proofs.Ytcjklacfoldaoaa
open Go.RowKit

structure SSt (w0 : World) (b : Nat) (r : Rules) (wx : World) (q : SPlay) (cr : Nat) (gv dv ov : Value) : Prop where
  sb : SBat wx b cr r q.s
  gt : wx.ownsRow w0.heap.size 37 1 gv q.went.length (q.went.map (fun g => Value.int .u64 g))
  dn : wx.ownsRow w0.heap.size 4 1 dv q.done.length (q.done.map (fun x => Value.bool x))
  ot : wx.ownsRow w0.heap.size 39 9 ov q.out.length (ansFlat q.out)
  gs : ∀ g, gv.ownBlock = some g → g ≠ b ∧ g ≠ cr
  ds : ∀ g, dv.ownBlock = some g → g ≠ b ∧ g ≠ cr
  os : ∀ g, ov.ownBlock = some g → g ≠ b ∧ g ≠ cr
  b0 : w0.heap.size ≤ b
  c0 : w0.heap.size ≤ cr
  bel : Below w0.heap.size w0 wx

theorem SBat.blt {w : World} {b cr : Nat} {r : Rules} {s : SB} (h : SBat w b cr r s) : b < w.heap.size := by
  obtain ⟨cv, hv, _⟩ := h.at_
  exact size_of_heap hv
theorem row_ne {w : World} {base e1 e2 s1 s2 n1 n2 : Nat} {v1 v2 : Value} {x1 x2 : List Value} (h1 : w.ownsRow base e1 s1 v1 n1 x1) (h2 : w.ownsRow base e2 s2 v2 n2 x2) (he : e1 ≠ e2) : v1.ownBlock = none ∨ v1.ownBlock ≠ v2.ownBlock := by
  cases hk : v1.ownBlock with
  | none => exact .inl rfl
  | some k =>
    refine .inr fun hk2 => ?_
    obtain ⟨_, cs, fr, a1⟩ := own_block h1 hk
    obtain ⟨_, cs2, fr2, a2⟩ := own_block h2 hk2.symm
    rw [a1] at a2
    simp at a2
    exact he a2.2.1

theorem row_len {w : World} {base : Nat} {e : TypeId} {size : Nat} {v : Value} {n : Nat} {xs : List Value} (h : w.ownsRow base e size v n xs) : ∃ p cap, v = .slice p n cap := by
  rcases h.2 with ⟨rfl, rfl⟩ | ⟨g, cap, cur, rfl, _⟩
  · exact ⟨_, _, rfl⟩
  · exact ⟨_, _, rfl⟩
theorem row_slice {w : World} {base : Nat} {e : TypeId} {size : Nat} {v : Value} {n : Nat} {xs : List Value} (h : w.ownsRow base e size v n xs) (hn : n ≠ 0) : ∃ g cap cs, v = .slice (some ⟨g, 0, none⟩) n cap ∧ g < w.heap.size ∧ base ≤ g ∧ w.heap[g]? = some (.cells cs e (0, 0)) ∧ ∀ (j : Nat) (u : Value), xs[j]? = some u → w.cell? ⟨g, j, none⟩ = some u := by
  have hc := h
  rcases h.2 with ⟨_, h0⟩ | ⟨g, cap, cur, rfl, hb, hg, _⟩
  · exact absurd h0 hn
  · refine ⟨g, cap, cur, rfl, size_of_heap hg, hb, hg, ?_⟩
    intro j u hu
    have := hc.cells (g := g) rfl j u hu
    rw [addr_add0] at this
    exact this

section
variable {w0 wx wy : World} {b cr : Nat} {r : Rules} {q : SPlay} {gv dv ov : Value}

theorem SSt.next_ne {cr' : Nat} {v : Value} (h : ∀ g, v.ownBlock = some g → g ≠ b ∧ g ≠ cr) (hl : ∀ g, v.ownBlock = some g → g < wx.heap.size) (k : cr' = cr ∨ wx.heap.size ≤ cr') : ∀ g, v.ownBlock = some g → g ≠ b ∧ g ≠ cr' := by
  intro g hg
  obtain ⟨a, c⟩ := h g hg
  have := hl g hg
  exact ⟨a, by rcases k with k | k <;> omega⟩

theorem SSt.cast (h : SSt w0 b r wx q cr gv dv ov) {q' : SPlay} (e1 : q'.s = q.s) (e2 : q'.went = q.went) (e3 : q'.done = q.done) (e4 : q'.out = q.out) : SSt w0 b r wx q' cr gv dv ov :=
  ⟨by rw [e1]; exact h.sb, by rw [e2]; exact h.gt, by rw [e3]; exact h.dn, by rw [e4]; exact h.ot, h.gs, h.ds, h.os, h.b0, h.c0, h.bel⟩
/-- The breaker has gone on. -/
theorem SSt.go (h : SSt w0 b r wx q cr gv dv ov) {s' : SB} {cr' : Nat} (s : SBat wy b cr' r s') (k : cr' = cr ∨ wx.heap.size ≤ cr') (m : Mod [b, cr] wx wy) : SSt w0 b r wy { q with s := s' } cr' gv dv ov := by
  have hz := h.bel.size
  have c0 := h.c0
  refine ⟨s, owns_keep h.gt fun g hg => m.block g (h.gt.lt g hg).2 ?_, owns_keep h.dn fun g hg => m.block g (h.dn.lt g hg).2 ?_, owns_keep h.ot fun g hg => m.block g (h.ot.lt g hg).2 ?_, SSt.next_ne h.gs (fun g hg => (h.gt.lt g hg).2) k, SSt.next_ne h.ds (fun g hg => (h.dn.lt g hg).2) k, SSt.next_ne h.os (fun g hg => (h.ot.lt g hg).2) k, h.b0, ?_, h.bel.trans (m.below_of hz ?_)⟩
  · simpa using h.gs g hg
  · simpa using h.ds g hg
  · simpa using h.os g hg
  · rcases k with k | k <;> omega
  · have := h.b0
    intro i hi
    simp at hi
    omega
theorem SSt.below (h : SSt w0 b r wx q cr gv dv ov) (bb : Below wx.heap.size wx wy) : SSt w0 b r wy q cr gv dv ov := by
  have m : Mod [] wx wy := Mod.of_below bb
  exact ⟨h.sb.keep m (by simp) (by simp), owns_keep h.gt fun g hg => m.block g (h.gt.lt g hg).2 (by simp), owns_keep h.dn fun g hg => m.block g (h.dn.lt g hg).2 (by simp), owns_keep h.ot fun g hg => m.block g (h.ot.lt g hg).2 (by simp), h.gs, h.ds, h.os, h.b0, h.c0, h.bel.trans (bb.mono h.bel.size)⟩
theorem SSt.alloc (h : SSt w0 b r wx q cr gv dv ov) (o : Obj) : SSt w0 b r (wx.alloc o) q cr gv dv ov := h.below ((Below.refl _ _).alloc (Nat.le_refl _) _)
theorem SSt.drew (h : SSt w0 b r wx q cr gv dv ov) : SSt w0 b r wx.drew q cr gv dv ov := h.below (Below.refl _ _).drew

/-- The answer of a round has been written: block g. -/
theorem SSt.set (h : SSt w0 b r wx q cr gv dv ov) {g : Nat} {cs : Array Value} {T : TypeId} {fr : Nat × Nat} (hg : wx.heap[g]? = some (.cells cs T fr)) (h1 : T ≠ 37) (h2 : T ≠ 4) (hb : g ≠ b) (hc : g ≠ cr) (ho : ov.ownBlock ≠ some g) (h0 : w0.heap.size ≤ g) (m : Mod [g] wx wy) : SSt w0 b r wy q cr gv dv ov := by
  refine ⟨h.sb.keep m (by simpa using hb.symm) (by simpa using hc.symm), owns_keep h.gt fun k hk => m.block k (h.gt.lt k hk).2 ?_, owns_keep h.dn fun k hk => m.block k (h.dn.lt k hk).2 ?_, owns_keep h.ot fun k hk => m.block k (h.ot.lt k hk).2 (by simp; rintro rfl; exact ho hk), h.gs, h.ds, h.os, h.b0, h.c0, h.bel.trans (m.below_of h.bel.size (by simpa using h0))⟩
  · simp
    rintro rfl
    exact own_ne h.gt hg h1 hk.symm
  · simp
    rintro rfl
    exact own_ne h.dn hg h2 hk.symm

theorem SSt.grow (h : SSt w0 b r wx q cr gv dv ov) {row : Option Nat} (hs : ∀ k, row = some k → k ≠ b ∧ k ≠ cr ∧ w0.heap.size ≤ k) (g : wx.grownBy wy row) : SBat wy b cr r q.s ∧ Below w0.heap.size w0 wy := by
  cases row with
  | none =>
    have bb : Below wx.heap.size wx wy := ⟨g.os, g.tape, g.output, g.size, fun k hk => g.block k hk (by simp)⟩
    exact ⟨(h.below bb).sb, (h.below bb).bel⟩
  | some k =>
    obtain ⟨x, y, z⟩ := hs k rfl
    have m : Mod [k] wx wy := Mod.of_grown g (by intro j hj; simp at hj; simp [hj])
    exact ⟨h.sb.keep m (by simpa using x.symm) (by simpa using y.symm), h.bel.trans (m.below_of h.bel.size (by simpa using z))⟩
theorem SSt.new_ne (h : SSt w0 b r wx q cr gv dv ov) {v : Value} {g : Nat} (hv : ∀ g, v.ownBlock = some g → g ≠ b ∧ g ≠ cr) (hat : v.ownBlock = some g ∨ g = wx.heap.size) {n cap : Nat} : ∀ k, (Value.slice (some ⟨g, 0, none⟩) n cap).ownBlock = some k → k ≠ b ∧ k ≠ cr := by
  intro k hk
  simp [Value.ownBlock] at hk
  subst hk
  have h1 := h.sb.blt
  have h2 := h.sb.crlt
  rcases hat with e | e
  · exact hv _ e
  · omega

theorem SSt.pushWent (h : SSt w0 b r wx q cr gv dv ov) {c : Int} {g cap : Nat} (hown : wy.ownsRow w0.heap.size 37 1 (.slice (some ⟨g, 0, none⟩) (q.went.length + 1) cap) (q.went.length + 1) (q.went.map (fun g => Value.int .u64 g) ++ [.int .u64 c])) (hgrow : wx.grownBy wy gv.ownBlock) (hat : gv.ownBlock = some g ∨ g = wx.heap.size) :
    SSt w0 b r wy { q with went := q.went ++ [c] } cr (.slice (some ⟨g, 0, none⟩) (q.went.length + 1) cap) dv ov := by
  obtain ⟨s, bl⟩ := h.grow (fun k hk => ⟨(h.gs k hk).1, (h.gs k hk).2, (h.gt.lt k hk).1⟩) hgrow
  exact ⟨s, by simpa using hown, h.dn.kept hgrow (row_ne h.dn h.gt (by decide)), h.ot.kept hgrow (row_ne h.ot h.gt (by decide)), h.new_ne h.gs hat, h.ds, h.os, h.b0, h.c0, bl⟩
theorem SSt.pushDone (h : SSt w0 b r wx q cr gv dv ov) {c : Bool} {g cap : Nat} (hown : wy.ownsRow w0.heap.size 4 1 (.slice (some ⟨g, 0, none⟩) (q.done.length + 1) cap) (q.done.length + 1) (q.done.map (fun g => Value.bool g) ++ [.bool c])) (hgrow : wx.grownBy wy dv.ownBlock) (hat : dv.ownBlock = some g ∨ g = wx.heap.size) :
    SSt w0 b r wy { q with done := q.done ++ [c] } cr gv (.slice (some ⟨g, 0, none⟩) (q.done.length + 1) cap) ov := by
  obtain ⟨s, bl⟩ := h.grow (fun k hk => ⟨(h.ds k hk).1, (h.ds k hk).2, (h.dn.lt k hk).1⟩) hgrow
  exact ⟨s, h.gt.kept hgrow (row_ne h.gt h.dn (by decide)), by simpa using hown, h.ot.kept hgrow (row_ne h.ot h.dn (by decide)), h.gs, h.new_ne h.ds hat, h.os, h.b0, h.c0, bl⟩
theorem SSt.pushOut (h : SSt w0 b r wx q cr gv dv ov) {x : Ans} {g cap : Nat} (hown : wy.ownsRow w0.heap.size 39 9 (.slice (some ⟨g, 0, none⟩) (q.out.length + 1) cap) (q.out.length + 1) (ansFlat q.out ++ ansRow x)) (hgrow : wx.grownBy wy ov.ownBlock) (hat : ov.ownBlock = some g ∨ g = wx.heap.size) :
    SSt w0 b r wy { q with out := q.out ++ [x] } cr gv dv (.slice (some ⟨g, 0, none⟩) (q.out.length + 1) cap) := by
  obtain ⟨s, bl⟩ := h.grow (fun k hk => ⟨(h.os k hk).1, (h.os k hk).2, (h.ot.lt k hk).1⟩) hgrow
  exact ⟨s, h.gt.kept hgrow (row_ne h.gt h.ot (by decide)), h.dn.kept hgrow (row_ne h.dn h.ot (by decide)), by rw [ansFlat_snoc, List.length_append]; exact hown, h.gs, h.ds, h.new_ne h.os hat, h.b0, h.c0, bl⟩
/-- A request has been told done. -/
theorem SSt.mark (h : SSt w0 b r wx q cr gv dv ov) {g cap k : Nat} (hd : dv = .slice (some ⟨g, 0, none⟩) q.done.length cap) : SSt w0 b r (wx.setCell ⟨g, k, none⟩ (.bool true)) { q with done := q.done.set k true } cr gv dv ov := by
  have ho := h.dn
  rw [hd] at ho
  obtain ⟨x, y⟩ := ho.stored k (.bool true)
  have e : (some g : Option Nat) = dv.ownBlock := by rw [hd]; rfl
  rw [e] at y
  obtain ⟨s, bl⟩ := h.grow (fun k hk => ⟨(h.ds k hk).1, (h.ds k hk).2, (h.dn.lt k hk).1⟩) y
  refine ⟨s, h.gt.kept y (row_ne h.gt h.dn (by decide)), ?_, h.ot.kept y (row_ne h.ot h.dn (by decide)), h.gs, h.ds, h.os, h.b0, h.c0, bl⟩
  rw [hd]
  simpa [List.map_set] using x
end

end Go.Proofs.Ytcjklacfoldaoaa
