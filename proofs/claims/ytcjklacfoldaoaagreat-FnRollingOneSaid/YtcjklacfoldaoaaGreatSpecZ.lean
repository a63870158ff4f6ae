import Derived.Laws.OwnMore
import Derived.Test.YtcjklacfoldaoaaGreatSpecI
import Derived.Test.YtcjklacfoldaoaaGreatPlayM
import Derived.Test.YtcjklacfoldaoaaGreatPlayN
/- Contract of the statements' Done as one. Conditions: the breaker lies in its blocks, the times are in their ranges. -/
namespace Go.Proofs.YtcjklacfoldaoaaGreat
open Go.RowKit

/-- The state is one of three. -/
def SB.Three (s : SB) : Prop := s.state = 0 ∨ s.state = 1 ∨ s.state = 2
theorem SB.Three.clear {s : SB} (h : s.Three) (r : Rules) (now : Int) : (SB.clear r now s).Three := h
theorem SB.Three.set {s : SB} {st : Int} (h : st = 0 ∨ st = 1 ∨ st = 2) (r : Rules) (now : Int) : (SB.set r st now s).Three := h
theorem SB.Three.look {s : SB} (h : s.Three) (r : Rules) (now : Int) : (s.look r now).Three := by
  unfold SB.look
  split
  · exact h
  · split
    · exact h
    · split
      · exact h
      · exact .inr (.inl rfl)
theorem SB.look_chs (s : SB) (r : Rules) (now : Int) : (s.look r now).chs.length ≤ s.chs.length + 1 := by
  unfold SB.look
  split
  · omega
  · split
    · simp
    · split
      · simp [SB.clear]
      · simp [SB.set, SB.clear]
theorem SB.Three.done {s : SB} (h : s.Three) (r : Rules) (now cl e : Int) : (s.done r now cl e).Three := by
  have hl := h.look r now
  unfold SB.done SB.done1
  split
  · exact hl
  · split
    · exact hl
    · split
      · split
        · exact .inl rfl
        · exact hl
      · split
        · exact .inr (.inr rfl)
        · exact hl
theorem SB.done_chs (s : SB) (r : Rules) (now cl e : Int) : (s.done r now cl e).chs.length ≤ s.chs.length + 2 := by
  have hl := s.look_chs r now
  unfold SB.done SB.done1
  split
  · omega
  · split
    · simp; omega
    · split
      · split
        · simp [SB.set, SB.clear]; omega
        · simp; omega
      · split
        · simp [SB.set, SB.clear]; omega
        · simp; omega
theorem SB.Three.allow {s : SB} (h : s.Three) (r : Rules) (now : Int) : ((s.look r now).allow1 r).Three := by
  have hl := h.look r now
  unfold SB.allow1
  split
  · exact hl
  · exact hl
theorem SB.allow_chs (s : SB) (r : Rules) (now : Int) : ((s.look r now).allow1 r).chs.length ≤ s.chs.length + 1 := by
  have hl := s.look_chs r now
  unfold SB.allow1
  split
  · simpa using hl
  · exact hl
theorem SB.Three.lo {s : SB} (h : s.Three) : 0 ≤ s.state ∧ s.state ≤ 2 := by rcases h with h | h | h <;> omega

theorem sbDone_any (b cr : Nat) (r : Rules) (s : SB) (now cl n : Int) (w : World) (h : SBat w b cr r s) (mild : r.Mild) (rok : r.Ok) (h3 : s.Three) (hlen : s.chs.length ≤ 999999) (t0 : -3000000000000000000 ≤ now) (t1 : now ≤ 3000000000000000000) (n0 : 0 ≤ n) (n1 : n ≤ 7) :
    Calls Tryz.prog 30 #[.pointer (some ⟨b, 0, none⟩), .int .i64 now, .int .u64 cl, .int .i64 n] w fun e w' => e = .returned (.tuple #[]) ∧ SEvo b r w cr w' (s.done r now cl n) := by
  have hle : (s.look r now).chs.length ≤ 1000000 := by have := s.look_chs r now; omega
  have hs := h3.look r now
  unfold SB.done
  by_cases hcl : (s.look r now).cleared = cl
  · rw [if_neg (by simpa using hcl)]
    unfold SB.done1
    cases ho : outB r n with
    | true => rw [if_pos rfl]; exact sbDone_out b cr r s now cl n w h mild rok hlen t0 t1 n0 n1 hcl ho
    | false =>
      rw [if_neg (by simp)]
      cases hg : goodB r n with
      | true =>
        rw [if_pos rfl]
        rcases hs with hs | hs | hs
        · rw [if_neg (by omega)]; exact sbDone_good0 b cr r s now cl n w h mild rok hlen t0 t1 n0 n1 hcl ho hg hs
        · by_cases hm : mostS r ≤ (s.look r now).cnt.succ.g
          · rw [if_pos ⟨hs, hm⟩]; exact sbDone_shut b cr r s now cl n w h mild rok hlen t0 t1 n0 n1 hcl ho hg hs hm hle
          · rw [if_neg (fun x => hm x.2)]; exact sbDone_stay b cr r s now cl n w h mild rok hlen t0 t1 n0 n1 hcl ho hg hs (by omega)
        · rw [if_neg (by omega)]; exact sbDone_good2 b cr r s now cl n w h mild rok hlen t0 t1 n0 n1 hcl ho hg hs
      | false =>
        rw [if_neg (by simp)]
        rcases hs with hs | hs | hs
        · cases ht : tripB r (s.look r now).cnt.fail with
          | true => rw [if_pos (.inr ⟨hs, rfl⟩)]; exact sbDone_fail3 b cr r s now cl n w h mild rok hlen t0 t1 n0 n1 hcl ho hg hs ht hle
          | false => rw [if_neg (by simp; omega)]; exact sbDone_fail0 b cr r s now cl n w h mild rok hlen t0 t1 n0 n1 hcl ho hg hs ht
        · rw [if_pos (.inl hs)]; exact sbDone_fail1 b cr r s now cl n w h mild rok hlen t0 t1 n0 n1 hcl ho hg hs hle
        · rw [if_neg (by omega)]; exact sbDone_fail2 b cr r s now cl n w h mild rok hlen t0 t1 n0 n1 hcl ho hg hs
  · rw [if_pos hcl]; exact sbDone_stale b cr r s now cl n w h mild rok hlen t0 t1 n0 n1 hcl

end Go.Proofs.YtcjklacfoldaoaaGreat

/- The statements' TwoStep as plain data. No condition. -/
namespace Go.Proofs.YtcjklacfoldaoaaGreat
open Go.RowKit

structure SPlay where
  s : SB
  now : Int
  went : List Int
  done : List Bool
  out : List Ans

namespace SPlay
def start (r : Rules) (now : Int) : SPlay := ⟨SB.new r now, now, [], [], []⟩
/-- A request is told done that has not gone, or has been told so. -/
def bad (p : SPlay) (a : Act) : Bool := a.kind == 2 && (decide (a.call < 0) || (decide ((p.went.length : Int) ≤ a.call) || p.done.getD a.call.toNat false))
/-- A round, all but its answer. -/
def sw (r : Rules) (p : SPlay) (a : Act) : SPlay :=
  if a.kind = 0 then { p with now := p.now + a.wait, s := p.s.look r (p.now + a.wait) }
  else if a.kind = 1 then { p with now := p.now + a.wait, s := (p.s.look r (p.now + a.wait)).allow1 r, went := if (p.s.look r (p.now + a.wait)).allowCode r = 0 then p.went ++ [(p.s.look r (p.now + a.wait)).cleared] else p.went, done := if (p.s.look r (p.now + a.wait)).allowCode r = 0 then p.done ++ [false] else p.done }
  else { p with now := p.now + a.wait, s := p.s.done r (p.now + a.wait) (p.went.getD a.call.toNat 0) a.err, done := p.done.set a.call.toNat true }
def code (r : Rules) (p : SPlay) (a : Act) : Int := if a.kind = 1 then (p.s.look r (p.now + a.wait)).allowCode r else 0
def state (r : Rules) (p : SPlay) (a : Act) : Int := if a.kind = 0 then (p.s.look r (p.now + a.wait)).state else -1
def act (r : Rules) (p : SPlay) (a : Act) : SPlay := { p.sw r a with out := p.out ++ [⟨p.code r a, p.state r a, (p.sw r a).s.cnt, (p.sw r a).s.cleared⟩] }
def run (r : Rules) : SPlay → List Act → Option SPlay
  | p, [] => some p
  | p, a :: l => if p.bad a then none else run r (p.act r a) l
end SPlay

/-- An act is within the bounds. -/
def actOk (a : Act) : Bool := decide (0 ≤ a.kind) && (decide (a.kind ≤ 2) && (isWait a.wait && isError a.err))
def twoOk (r : Rules) (start : Int) (l : List Act) : Bool := match SPlay.run r (SPlay.start r start) l with | none => false | some p => !p.s.opn
def areActs (r : Rules) (start : Int) (l : List Act) : Bool := areRules r && (isTime start && (decide (l.length ≤ 2000) && (l.all actOk && twoOk r start l)))

namespace SPlay
theorem sw_out (r : Rules) (p : SPlay) (a : Act) : (p.sw r a).out = p.out := by
  unfold sw; split
  · rfl
  · split <;> rfl
theorem act_eq (r : Rules) (p : SPlay) (a : Act) : { p.sw r a with out := (p.sw r a).out ++ [⟨p.code r a, p.state r a, (p.sw r a).s.cnt, (p.sw r a).s.cleared⟩] } = p.act r a := by
  unfold act; rw [sw_out]
theorem run_drop (r : Rules) (p : SPlay) {l : List Act} {i : Nat} {a : Act} (h : l[i]? = some a) : run r p (l.drop i) = if p.bad a then none else run r (p.act r a) (l.drop (i + 1)) := by
  have hi : i < l.length := by
    rcases Nat.lt_or_ge i l.length with h' | h'
    · exact h'
    · rw [List.getElem?_eq_none h'] at h; cases h
  rw [List.drop_eq_getElem_cons hi]
  rw [List.getElem?_eq_getElem hi] at h
  simp at h
  rw [h, run]
theorem sw_now (r : Rules) (p : SPlay) (a : Act) : (p.sw r a).now = p.now + a.wait := by
  unfold sw; split
  · rfl
  · split <;> rfl
theorem allow_three {s : SB} (h : s.Three) (r : Rules) : (s.allow1 r).Three := by
  unfold SB.allow1; split
  · exact h
  · exact h
theorem sw_three {p : SPlay} (h : p.s.Three) (r : Rules) (a : Act) : (p.sw r a).s.Three := by
  unfold sw; split
  · exact h.look r _
  · split
    · exact allow_three (h.look r _) r
    · exact h.done r _ _ _
theorem sw_sizes (r : Rules) (p : SPlay) (a : Act) : (p.sw r a).s.chs.length ≤ p.s.chs.length + 2 ∧ (p.sw r a).went.length ≤ p.went.length + 1 ∧ (p.done.length = p.went.length → (p.sw r a).done.length = (p.sw r a).went.length) := by
  have h1 := SB.look_chs p.s r (p.now + a.wait)
  unfold sw; split
  · exact ⟨by dsimp only; omega, by dsimp only; omega, fun h => h⟩
  · split
    · refine ⟨?_, ?_, ?_⟩
      · dsimp only
        have : ((p.s.look r (p.now + a.wait)).allow1 r).chs.length = (p.s.look r (p.now + a.wait)).chs.length := by unfold SB.allow1; split <;> rfl
        omega
      · dsimp only; split <;> simp
      · intro h; dsimp only; split <;> simp [h]
    · exact ⟨SB.done_chs _ _ _ _ _, by dsimp only; omega, fun h => by simpa using h⟩
theorem act_s (r : Rules) (p : SPlay) (a : Act) : (p.act r a).s = (p.sw r a).s ∧ (p.act r a).now = p.now + a.wait ∧ (p.act r a).went = (p.sw r a).went ∧ (p.act r a).done = (p.sw r a).done ∧ (p.act r a).out.length = p.out.length + 1 := ⟨rfl, sw_now r p a, rfl, rfl, by simp [act]⟩
end SPlay

end Go.Proofs.YtcjklacfoldaoaaGreat

/- What lies where in a round of the statements' TwoStep. No condition. -/
namespace Go.Proofs.YtcjklacfoldaoaaGreat
open Go.RowKit

structure SSt (w0 : World) (b : Nat) (r : Rules) (wx : World) (q : SPlay) (cr : Nat) (gv dv ov : Value) : Prop where
  sb : SBat wx b cr r q.s
  gt : wx.ownsRow w0.heap.size 50 1 gv q.went.length (q.went.map (fun g => Value.int .u64 g))
  dn : wx.ownsRow w0.heap.size 4 1 dv q.done.length (q.done.map (fun x => Value.bool x))
  ot : wx.ownsRow w0.heap.size 52 9 ov q.out.length (ansFlat q.out)
  gs : ∀ g, gv.ownBlock = some g → g ≠ b ∧ g ≠ cr
  ds : ∀ g, dv.ownBlock = some g → g ≠ b ∧ g ≠ cr
  os : ∀ g, ov.ownBlock = some g → g ≠ b ∧ g ≠ cr
  b0 : w0.heap.size ≤ b
  c0 : w0.heap.size ≤ cr
  bel : Below w0.heap.size w0 wx

theorem SBat.blt {w : World} {b cr : Nat} {r : Rules} {s : SB} (h : SBat w b cr r s) : b < w.heap.size := by
  obtain ⟨cv, hv, _⟩ := h.at_
  exact size_of_heap hv
theorem row_ne {w : World} {base e1 e2 s1 s2 n1 n2 : Nat} {v1 v2 : Value} {x1 x2 : List Value} (h1 : w.ownsRow base e1 s1 v1 n1 x1) (h2 : w.ownsRow base e2 s2 v2 n2 x2) (he : e1 ≠ e2) : v1.ownBlock = none ∨ v1.ownBlock ≠ v2.ownBlock := by
  cases hk : v1.ownBlock with
  | none => exact .inl rfl
  | some k =>
    refine .inr fun hk2 => ?_
    obtain ⟨_, cs, fr, a1⟩ := own_block h1 hk
    obtain ⟨_, cs2, fr2, a2⟩ := own_block h2 hk2.symm
    rw [a1] at a2
    simp at a2
    exact he a2.2.1

theorem row_len {w : World} {base : Nat} {e : TypeId} {size : Nat} {v : Value} {n : Nat} {xs : List Value} (h : w.ownsRow base e size v n xs) : ∃ p cap, v = .slice p n cap := by
  rcases h.2 with ⟨rfl, rfl⟩ | ⟨g, cap, cur, rfl, _⟩
  · exact ⟨_, _, rfl⟩
  · exact ⟨_, _, rfl⟩
theorem row_slice {w : World} {base : Nat} {e : TypeId} {size : Nat} {v : Value} {n : Nat} {xs : List Value} (h : w.ownsRow base e size v n xs) (hn : n ≠ 0) : ∃ g cap cs, v = .slice (some ⟨g, 0, none⟩) n cap ∧ g < w.heap.size ∧ base ≤ g ∧ w.heap[g]? = some (.cells cs e (0, 0)) ∧ ∀ (j : Nat) (u : Value), xs[j]? = some u → w.cell? ⟨g, j, none⟩ = some u := by
  have hc := h
  rcases h.2 with ⟨_, h0⟩ | ⟨g, cap, cur, rfl, hb, hg, _⟩
  · exact absurd h0 hn
  · refine ⟨g, cap, cur, rfl, size_of_heap hg, hb, hg, ?_⟩
    intro j u hu
    have := hc.cells (g := g) rfl j u hu
    rw [addr_add0] at this
    exact this

section
variable {w0 wx wy : World} {b cr : Nat} {r : Rules} {q : SPlay} {gv dv ov : Value}

theorem SSt.next_ne {cr' : Nat} {v : Value} (h : ∀ g, v.ownBlock = some g → g ≠ b ∧ g ≠ cr) (hl : ∀ g, v.ownBlock = some g → g < wx.heap.size) (k : cr' = cr ∨ wx.heap.size ≤ cr') : ∀ g, v.ownBlock = some g → g ≠ b ∧ g ≠ cr' := by
  intro g hg
  obtain ⟨a, c⟩ := h g hg
  have := hl g hg
  exact ⟨a, by rcases k with k | k <;> omega⟩

theorem SSt.cast (h : SSt w0 b r wx q cr gv dv ov) {q' : SPlay} (e1 : q'.s = q.s) (e2 : q'.went = q.went) (e3 : q'.done = q.done) (e4 : q'.out = q.out) : SSt w0 b r wx q' cr gv dv ov :=
  ⟨by rw [e1]; exact h.sb, by rw [e2]; exact h.gt, by rw [e3]; exact h.dn, by rw [e4]; exact h.ot, h.gs, h.ds, h.os, h.b0, h.c0, h.bel⟩
/-- The breaker has gone on. -/
theorem SSt.go (h : SSt w0 b r wx q cr gv dv ov) {s' : SB} {cr' : Nat} (s : SBat wy b cr' r s') (k : cr' = cr ∨ wx.heap.size ≤ cr') (m : Mod [b, cr] wx wy) : SSt w0 b r wy { q with s := s' } cr' gv dv ov := by
  have hz := h.bel.size
  have c0 := h.c0
  refine ⟨s, owns_keep h.gt fun g hg => m.block g (h.gt.lt g hg).2 ?_, owns_keep h.dn fun g hg => m.block g (h.dn.lt g hg).2 ?_, owns_keep h.ot fun g hg => m.block g (h.ot.lt g hg).2 ?_, SSt.next_ne h.gs (fun g hg => (h.gt.lt g hg).2) k, SSt.next_ne h.ds (fun g hg => (h.dn.lt g hg).2) k, SSt.next_ne h.os (fun g hg => (h.ot.lt g hg).2) k, h.b0, ?_, h.bel.trans (m.below_of hz ?_)⟩
  · simpa using h.gs g hg
  · simpa using h.ds g hg
  · simpa using h.os g hg
  · rcases k with k | k <;> omega
  · have := h.b0
    intro i hi
    simp at hi
    omega
theorem SSt.below (h : SSt w0 b r wx q cr gv dv ov) (bb : Below wx.heap.size wx wy) : SSt w0 b r wy q cr gv dv ov := by
  have m : Mod [] wx wy := Mod.of_below bb
  exact ⟨h.sb.keep m (by simp) (by simp), owns_keep h.gt fun g hg => m.block g (h.gt.lt g hg).2 (by simp), owns_keep h.dn fun g hg => m.block g (h.dn.lt g hg).2 (by simp), owns_keep h.ot fun g hg => m.block g (h.ot.lt g hg).2 (by simp), h.gs, h.ds, h.os, h.b0, h.c0, h.bel.trans (bb.mono h.bel.size)⟩
theorem SSt.alloc (h : SSt w0 b r wx q cr gv dv ov) (o : Obj) : SSt w0 b r (wx.alloc o) q cr gv dv ov := h.below ((Below.refl _ _).alloc (Nat.le_refl _) _)
theorem SSt.drew (h : SSt w0 b r wx q cr gv dv ov) : SSt w0 b r wx.drew q cr gv dv ov := h.below (Below.refl _ _).drew

/-- The answer of a round has been written: block g. -/
theorem SSt.set (h : SSt w0 b r wx q cr gv dv ov) {g : Nat} {cs : Array Value} {T : TypeId} {fr : Nat × Nat} (hg : wx.heap[g]? = some (.cells cs T fr)) (h1 : T ≠ 50) (h2 : T ≠ 4) (hb : g ≠ b) (hc : g ≠ cr) (ho : ov.ownBlock ≠ some g) (h0 : w0.heap.size ≤ g) (m : Mod [g] wx wy) : SSt w0 b r wy q cr gv dv ov := by
  refine ⟨h.sb.keep m (by simpa using hb.symm) (by simpa using hc.symm), owns_keep h.gt fun k hk => m.block k (h.gt.lt k hk).2 ?_, owns_keep h.dn fun k hk => m.block k (h.dn.lt k hk).2 ?_, owns_keep h.ot fun k hk => m.block k (h.ot.lt k hk).2 (by simp; rintro rfl; exact ho hk), h.gs, h.ds, h.os, h.b0, h.c0, h.bel.trans (m.below_of h.bel.size (by simpa using h0))⟩
  · simp
    rintro rfl
    exact own_ne h.gt hg h1 hk.symm
  · simp
    rintro rfl
    exact own_ne h.dn hg h2 hk.symm

theorem SSt.grow (h : SSt w0 b r wx q cr gv dv ov) {row : Option Nat} (hs : ∀ k, row = some k → k ≠ b ∧ k ≠ cr ∧ w0.heap.size ≤ k) (g : wx.grownBy wy row) : SBat wy b cr r q.s ∧ Below w0.heap.size w0 wy := by
  cases row with
  | none =>
    have bb : Below wx.heap.size wx wy := ⟨g.os, g.tape, g.output, g.size, fun k hk => g.block k hk (by simp)⟩
    exact ⟨(h.below bb).sb, (h.below bb).bel⟩
  | some k =>
    obtain ⟨x, y, z⟩ := hs k rfl
    have m : Mod [k] wx wy := Mod.of_grown g (by intro j hj; simp at hj; simp [hj])
    exact ⟨h.sb.keep m (by simpa using x.symm) (by simpa using y.symm), h.bel.trans (m.below_of h.bel.size (by simpa using z))⟩
theorem SSt.new_ne (h : SSt w0 b r wx q cr gv dv ov) {v : Value} {g : Nat} (hv : ∀ g, v.ownBlock = some g → g ≠ b ∧ g ≠ cr) (hat : v.ownBlock = some g ∨ g = wx.heap.size) {n cap : Nat} : ∀ k, (Value.slice (some ⟨g, 0, none⟩) n cap).ownBlock = some k → k ≠ b ∧ k ≠ cr := by
  intro k hk
  simp [Value.ownBlock] at hk
  subst hk
  have h1 := h.sb.blt
  have h2 := h.sb.crlt
  rcases hat with e | e
  · exact hv _ e
  · omega

theorem SSt.pushWent (h : SSt w0 b r wx q cr gv dv ov) {c : Int} {g cap : Nat} (hown : wy.ownsRow w0.heap.size 50 1 (.slice (some ⟨g, 0, none⟩) (q.went.length + 1) cap) (q.went.length + 1) (q.went.map (fun g => Value.int .u64 g) ++ [.int .u64 c])) (hgrow : wx.grownBy wy gv.ownBlock) (hat : gv.ownBlock = some g ∨ g = wx.heap.size) :
    SSt w0 b r wy { q with went := q.went ++ [c] } cr (.slice (some ⟨g, 0, none⟩) (q.went.length + 1) cap) dv ov := by
  obtain ⟨s, bl⟩ := h.grow (fun k hk => ⟨(h.gs k hk).1, (h.gs k hk).2, (h.gt.lt k hk).1⟩) hgrow
  exact ⟨s, by simpa using hown, h.dn.kept hgrow (row_ne h.dn h.gt (by decide)), h.ot.kept hgrow (row_ne h.ot h.gt (by decide)), h.new_ne h.gs hat, h.ds, h.os, h.b0, h.c0, bl⟩
theorem SSt.pushDone (h : SSt w0 b r wx q cr gv dv ov) {c : Bool} {g cap : Nat} (hown : wy.ownsRow w0.heap.size 4 1 (.slice (some ⟨g, 0, none⟩) (q.done.length + 1) cap) (q.done.length + 1) (q.done.map (fun g => Value.bool g) ++ [.bool c])) (hgrow : wx.grownBy wy dv.ownBlock) (hat : dv.ownBlock = some g ∨ g = wx.heap.size) :
    SSt w0 b r wy { q with done := q.done ++ [c] } cr gv (.slice (some ⟨g, 0, none⟩) (q.done.length + 1) cap) ov := by
  obtain ⟨s, bl⟩ := h.grow (fun k hk => ⟨(h.ds k hk).1, (h.ds k hk).2, (h.dn.lt k hk).1⟩) hgrow
  exact ⟨s, h.gt.kept hgrow (row_ne h.gt h.dn (by decide)), by simpa using hown, h.ot.kept hgrow (row_ne h.ot h.dn (by decide)), h.gs, h.new_ne h.ds hat, h.os, h.b0, h.c0, bl⟩
theorem SSt.pushOut (h : SSt w0 b r wx q cr gv dv ov) {x : Ans} {g cap : Nat} (hown : wy.ownsRow w0.heap.size 52 9 (.slice (some ⟨g, 0, none⟩) (q.out.length + 1) cap) (q.out.length + 1) (ansFlat q.out ++ ansRow x)) (hgrow : wx.grownBy wy ov.ownBlock) (hat : ov.ownBlock = some g ∨ g = wx.heap.size) :
    SSt w0 b r wy { q with out := q.out ++ [x] } cr gv dv (.slice (some ⟨g, 0, none⟩) (q.out.length + 1) cap) := by
  obtain ⟨s, bl⟩ := h.grow (fun k hk => ⟨(h.os k hk).1, (h.os k hk).2, (h.ot.lt k hk).1⟩) hgrow
  exact ⟨s, h.gt.kept hgrow (row_ne h.gt h.ot (by decide)), h.dn.kept hgrow (row_ne h.dn h.ot (by decide)), by rw [ansFlat_snoc, List.length_append]; exact hown, h.gs, h.ds, h.new_ne h.os hat, h.b0, h.c0, bl⟩
/-- A request has been told done. -/
theorem SSt.mark (h : SSt w0 b r wx q cr gv dv ov) {g cap k : Nat} (hd : dv = .slice (some ⟨g, 0, none⟩) q.done.length cap) : SSt w0 b r (wx.setCell ⟨g, k, none⟩ (.bool true)) { q with done := q.done.set k true } cr gv dv ov := by
  have ho := h.dn
  rw [hd] at ho
  obtain ⟨x, y⟩ := ho.stored k (.bool true)
  have e : (some g : Option Nat) = dv.ownBlock := by rw [hd]; rfl
  rw [e] at y
  obtain ⟨s, bl⟩ := h.grow (fun k hk => ⟨(h.ds k hk).1, (h.ds k hk).2, (h.dn.lt k hk).1⟩) y
  refine ⟨s, h.gt.kept y (row_ne h.gt h.dn (by decide)), ?_, h.ot.kept y (row_ne h.ot h.dn (by decide)), h.gs, h.ds, h.os, h.b0, h.c0, bl⟩
  rw [hd]
  simpa [List.map_set] using x
end

end Go.Proofs.YtcjklacfoldaoaaGreat

/- The breaker and the statements' breaker do the same. Conditions: the rules and the acts are within the bounds, and nothing comes at the very end of a time. -/
namespace Go.Proofs.YtcjklacfoldaoaaGreat
open Go.RowKit

/-- A breaker and the statements' breaker say the same. -/
structure CRel (r : Rules) (c : CB) (s : SB) : Prop where
  st : c.state = s.state
  cnt : c.rc.tot = s.cnt
  len : c.rc.bs.length = 1
  age : c.rc.age = 0
  most : c.maxReq = mostN r
  int : c.interval = intN r
  tim : c.timeout = timN r
  gen : c.gen = 1 + s.cleared
  cl0 : 0 ≤ s.cleared
  exp : c.exp = if s.timed then s.fin else T0
  fin : s.timed = true → -5000000000000000000 ≤ s.fin
  tim1 : s.state = 1 → s.timed = false
  tim2 : s.state = 2 → s.timed = true
  three : s.Three
  x0 : s.state = 1 → s.cnt.x = 0
  r0 : 0 ≤ s.cnt.r
  r1 : s.cnt.r < 4294967296
  opn : s.opn = false

theorem w64u_small {n : Int} (h0 : 0 ≤ n) (h1 : n ≤ 9000000000000000000) : w64u n = n := by
  show n % 18446744073709551616 = n
  omega
theorem T0_val : T0 = -62135596800000000000 := rfl

theorem most_same {r : Rules} (m : r.Mild) : mostN r = mostS r := by
  unfold mostN mostS
  have := m.m0
  split <;> split <;> omega

theorem CRel.clear {r : Rules} {c : CB} {s : SB} {now : Int} (m : r.Mild) (hst : c.state = s.state) (hlen : c.rc.bs.length = 1) (hmost : c.maxReq = mostN r) (hint : c.interval = intN r) (htim : c.timeout = timN r) (hgen : c.gen = 1 + s.cleared) (h0 : 0 ≤ s.cleared) (h1 : s.cleared ≤ 1000000) (h3 : s.Three) (ho : s.opn = false)
    (n0 : -3000000000000000000 ≤ now) (n1 : now ≤ 3000000000000000000) : CRel r (c.newGen now) (SB.clear r now s) := by
  have i0 := m.i0
  have i1 := m.i1
  have j0 := m.j0
  have j1 := m.j1
  have hcl : w64u (s.cleared + 1) = s.cleared + 1 := w64u_small (by omega) (by omega)
  have hg : w64u (c.gen + 1) = 1 + (s.cleared + 1) := by rw [hgen, w64u_small (by omega) (by omega)]; omega
  refine ⟨hst, rfl, by simp [CB.newGen, RC.clear, hlen], rfl, hmost, hint, htim, ?_, ?_, ?_, ?_, ?_, ?_, h3, fun _ => rfl, by simp [SB.clear, Cnt.zero], by simp [SB.clear, Cnt.zero], ho⟩
  · show w64u (c.gen + 1) = 1 + w64u (s.cleared + 1)
    rw [hcl, hg]
  · show 0 ≤ w64u (s.cleared + 1)
    omega
  · show c.expNew now = _
    unfold CB.expNew SB.clear
    dsimp only
    rw [hst, hint, htim, hlen]
    rcases h3 with h | h | h
    · simp only [if_pos h]
      unfold intN
      by_cases hi : r.interval ≤ 0
      · rw [if_pos hi, if_pos (c := (0 : Int) = 0 ∨ 2 ≤ 1) (.inl rfl), decide_eq_false (show ¬ 0 < r.interval by omega)]; rfl
      · rw [if_neg hi, if_neg (c := r.interval = 0 ∨ 2 ≤ 1) (by omega), decide_eq_true (show 0 < r.interval by omega)]; rfl
    · have k0 : ¬ s.state = 0 := by omega
      have k2 : ¬ s.state = 2 := by omega
      simp only [if_neg k0, if_neg k2]
      rfl
    · have k0 : ¬ s.state = 0 := by omega
      simp only [if_neg k0, if_pos h, if_true]
      unfold timN
      split <;> rfl
  · intro ht
    unfold SB.clear at ht ⊢
    dsimp only at ht ⊢
    rcases h3 with h | h | h
    · rw [if_pos h]; omega
    · rw [if_neg (by omega), if_neg (by omega)] at ht; cases ht
    · rw [if_neg (by omega), if_pos h]; split <;> omega
  · intro h
    have h' : s.state = 1 := h
    unfold SB.clear
    dsimp only
    rw [if_neg (by omega), if_neg (by omega)]
  · intro h
    have h' : s.state = 2 := h
    unfold SB.clear
    dsimp only
    rw [if_neg (by omega), if_pos h']

/-- The state changes. -/
theorem CRel.set {r : Rules} {c : CB} {s : SB} {st now : Int} (m : r.Mild) (hlen : c.rc.bs.length = 1) (hmost : c.maxReq = mostN r) (hint : c.interval = intN r) (htim : c.timeout = timN r) (hgen : c.gen = 1 + s.cleared) (h0 : 0 ≤ s.cleared) (h1 : s.cleared ≤ 1000000) (h3 : st = 0 ∨ st = 1 ∨ st = 2) (ho : s.opn = false)
    (n0 : -3000000000000000000 ≤ now) (n1 : now ≤ 3000000000000000000) : CRel r (({ c with state := st } : CB).newGen now) (SB.set r st now s) :=
  CRel.clear (c := { c with state := st }) (s := { s with chs := s.chs ++ [(s.state, st)], state := st }) m rfl hlen hmost hint htim hgen h0 h1 h3 ho n0 n1

/-- How often the counts are cleared, ahead of a step and behind it. -/
structure Went (s s' : SB) : Prop where
  le : s.cleared ≤ s'.cleared
  ge : s'.cleared ≤ s.cleared + 2
  op : s'.state = 2 → s.cleared < s'.cleared ∨ (s.state = 2 ∧ s'.cleared = s.cleared)
theorem clear_cleared (r : Rules) (now : Int) (s : SB) (h0 : 0 ≤ s.cleared) (h1 : s.cleared ≤ 1000000) : (SB.clear r now s).cleared = s.cleared + 1 := w64u_small (by omega) (by omega)
theorem set_cleared (r : Rules) (st now : Int) (s : SB) (h0 : 0 ≤ s.cleared) (h1 : s.cleared ≤ 1000000) : (SB.set r st now s).cleared = s.cleared + 1 := w64u_small (by dsimp only; omega) (by dsimp only; omega)
theorem set_state (r : Rules) (st now : Int) (s : SB) : (SB.set r st now s).state = st := rfl
theorem set_chs (r : Rules) (st now : Int) (s : SB) : (SB.set r st now s).chs = s.chs ++ [(s.state, st)] := rfl

/-- Nothing is said of the very end of a time. -/
theorem look_opn {r : Rules} {s : SB} {now : Int} (h : (s.look r now).opn = false) (ht : s.timed = true) : s.opn = false ∧ now ≠ s.fin := by
  unfold SB.look at h
  rw [if_neg (by simp [ht])] at h
  split at h
  · simpa using h
  · split at h
    · simpa [SB.clear] using h
    · simpa [SB.set, SB.clear] using h
theorem look_opn0 {r : Rules} {s : SB} {now : Int} (h : (s.look r now).opn = false) : s.opn = false := by
  by_cases ht : s.timed = true
  · exact (look_opn h ht).1
  · unfold SB.look at h; rw [if_pos (by simpa using ht)] at h; exact h
theorem SB.opn_eta {s : SB} {x : Bool} (h : s.opn = false) (hx : x = false) : ({ s with opn := s.opn || x } : SB) = s := by
  cases s; simp at h; subst h; subst hx; rfl

theorem CRel.look {r : Rules} {c : CB} {s : SB} {now : Int} (m : r.Mild) (h : CRel r c s) (h1 : s.cleared ≤ 999990) (n0 : -3000000000000000000 ≤ now) (n1 : now ≤ 3000000000000000000) (ho : (s.look r now).opn = false) :
    CRel r (c.look now) (s.look r now) ∧ (s.look r now).chs = s.chs ++ c.lookTold now ∧ s.cleared ≤ (s.look r now).cleared ∧ (s.look r now).cleared ≤ s.cleared + 1 ∧ ((s.look r now).state = 2 → s.state = 2 ∧ (s.look r now).cleared = s.cleared) := by
  have hT := T0_val
  by_cases ht : s.timed = true
  · obtain ⟨o1, o2⟩ := look_opn ho ht
    have he : c.exp = s.fin := by rw [h.exp, if_pos ht]
    have hf := h.fin ht
    have hx : (now == s.fin) = false := by simpa using o2
    unfold SB.look
    rw [if_neg (by simp [ht]), SB.opn_eta o1 hx]
    by_cases hl : now ≤ s.fin
    · have e1 : c.look now = c := by
        unfold CB.look
        rw [h.len, if_neg (c := c.exp ≠ T0 ∧ c.exp < now) (by omega), if_neg (c := c.state = 2 ∧ c.exp < now) (by omega)]
        split
        · rw [if_neg (by omega)]
        · rfl
      have e2 : c.lookTold now = [] := by unfold CB.lookTold; rw [if_neg (by omega)]
      rw [if_pos hl, e1, e2]
      exact ⟨h, by simp, by omega, by omega, fun x => ⟨x, rfl⟩⟩
    · rw [if_neg hl]
      by_cases hs : s.state = 0
      · have e1 : c.look now = c.newGen now := by
          unfold CB.look
          rw [if_pos (by rw [h.st]; exact hs), if_pos ⟨by omega, by omega⟩]
        have e2 : c.lookTold now = [] := by unfold CB.lookTold; rw [if_neg (by rw [h.st]; omega)]
        rw [if_pos hs, e1, e2]
        refine ⟨CRel.clear m h.st h.len h.most h.int h.tim h.gen h.cl0 (by omega) h.three o1 n0 n1, by simp [SB.clear], ?_, ?_, ?_⟩
        · rw [clear_cleared r now s h.cl0 (by omega)]; omega
        · rw [clear_cleared r now s h.cl0 (by omega)]; omega
        · intro x; have x' : s.state = 2 := x; omega
      · have hs2 : s.state = 2 := by
          rcases h.three with x | x | x
          · exact absurd x hs
          · rw [h.tim1 x] at ht; cases ht
          · exact x
        have e1 : c.look now = ({ c with state := 1 } : CB).newGen now := by
          unfold CB.look
          rw [if_neg (by rw [h.st]; exact hs), if_pos ⟨by rw [h.st]; exact hs2, by omega⟩]
        have e2 : c.lookTold now = [(2, 1)] := by unfold CB.lookTold; rw [if_pos ⟨by rw [h.st]; exact hs2, by omega⟩]
        rw [if_neg hs, e1, e2]
        refine ⟨CRel.set m h.len h.most h.int h.tim h.gen h.cl0 (by omega) (.inr (.inl rfl)) o1 n0 n1, by rw [set_chs, hs2], ?_, ?_, ?_⟩
        · rw [set_cleared r 1 now s h.cl0 (by omega)]; omega
        · rw [set_cleared r 1 now s h.cl0 (by omega)]; omega
        · intro x; rw [set_state] at x; omega
  · have ht' : s.timed = false := by simpa using ht
    have he : c.exp = T0 := by rw [h.exp, if_neg ht]
    have hs2 : s.state ≠ 2 := fun x => ht (h.tim2 x)
    have e0 : s.look r now = s := by unfold SB.look; rw [if_pos ht']
    have e1 : c.look now = c := by
      unfold CB.look
      rw [h.len, h.st, if_neg (c := c.exp ≠ T0 ∧ c.exp < now) (by simp [he]), if_neg (c := s.state = 2 ∧ c.exp < now) (by omega)]
      split
      · rw [if_neg (by omega)]
      · rfl
    have e2 : c.lookTold now = [] := by unfold CB.lookTold; rw [if_neg (by rw [h.st]; omega)]
    rw [e0, e1, e2]
    exact ⟨h, by simp, by omega, by omega, fun x => ⟨x, rfl⟩⟩

theorem put_tot {c : CB} (hlen : c.rc.bs.length = 1) (hage : c.rc.age = 0) (k : Cnt → Cnt) : (c.put k 0).rc.tot = k c.rc.tot ∧ (c.put k 0).rc.bs.length = 1 ∧ (c.put k 0).rc.age = 0 := by
  unfold CB.put RC.on
  dsimp only
  rw [if_neg (by omega), if_pos (by omega)]
  exact ⟨rfl, by simp [hlen], hage⟩

theorem CRel.allow {r : Rules} {c : CB} {s : SB} (m : r.Mild) (h : CRel r c s) : CRel r c.before1 (s.allow1 r) ∧ c.beforeCode = s.allowCode r := by
  have hv : s.state = 1 → c.rc.tot.valid = s.cnt.r := by
    intro hs
    have := h.x0 hs
    have a := h.r0
    have b := h.r1
    unfold Cnt.valid
    rw [h.cnt, this, if_neg (by omega)]
    unfold w32
    omega
  have hcode : c.beforeCode = s.allowCode r := by
    unfold CB.beforeCode SB.allowCode
    rw [h.st, h.most, most_same m]
    by_cases hs : s.state = 1
    · rw [hv hs]
    · rw [if_neg (c := s.state = 1 ∧ mostS r ≤ c.rc.tot.valid) (by omega), if_neg (c := s.state = 1 ∧ mostS r ≤ s.cnt.r) (by omega)]
  refine ⟨?_, hcode⟩
  have hb : c.before1 = if c.beforeCode = 0 then { c with rc := c.rc.req } else c := by
    unfold CB.before1 CB.beforeCode
    split
    · rfl
    · split <;> rfl
  rw [hb, hcode]
  unfold SB.allow1
  split
  · exact ⟨h.st, by simp [RC.req, Cnt.req, h.cnt], by simpa [RC.req] using h.len, h.age, h.most, h.int, h.tim, h.gen, h.cl0, h.exp, h.fin, h.tim1, h.tim2, h.three, h.x0, by unfold w32; dsimp only; omega, by unfold w32; dsimp only; omega, h.opn⟩
  · exact h

/-- One kind of counting, that leaves the number of requests as it is. -/
theorem CRel.put {r : Rules} {c : CB} {s : SB} (h : CRel r c s) (k : Cnt → Cnt) (hk : ∀ x, (k x).r = x.r) (hx : s.state = 1 → ∀ x, (k x).x = x.x) : CRel r (c.put k 0) { s with cnt := k s.cnt } := by
  obtain ⟨p1, p2, p3⟩ := put_tot h.len h.age k
  exact ⟨h.st, by rw [p1, h.cnt], p2, p3, h.most, h.int, h.tim, h.gen, h.cl0, h.exp, h.fin, h.tim1, h.tim2, h.three, fun hs => (hx hs _).trans (h.x0 hs), by rw [hk]; exact h.r0, by rw [hk]; exact h.r1, h.opn⟩

theorem done1_opn {r : Rules} {s : SB} {now e : Int} (h : (s.done1 r now e).opn = false) : s.opn = false ∧ (outB r e = true → s.state ≠ 1) := by
  unfold SB.done1 at h
  split at h
  · next ho => simp at h; exact ⟨h.1, fun _ => h.2⟩
  · next ho =>
    refine ⟨?_, fun x => absurd x ho⟩
    split at h
    · split at h
      · exact h
      · exact h
    · split at h
      · exact h
      · exact h

theorem CRel.done1 {r : Rules} {c : CB} {s : SB} {now e : Int} (m : r.Mild) (h : CRel r c s) (h1 : s.cleared ≤ 999995) (n0 : -3000000000000000000 ≤ now) (n1 : now ≤ 3000000000000000000) (h2 : s.state ≠ 2) (ho : (s.done1 r now e).opn = false) :
    CRel r (if outB r e then c.put Cnt.excl 0 else if goodB r e then c.onSucc 0 now else c.onFail r 0 now) (s.done1 r now e) ∧
    (s.done1 r now e).chs = s.chs ++ (if outB r e then [] else if goodB r e then c.onSuccTold 0 else c.onFailTold r 0) ∧
    s.cleared ≤ (s.done1 r now e).cleared ∧ (s.done1 r now e).cleared ≤ s.cleared + 1 ∧ ((s.done1 r now e).state = 2 → s.cleared < (s.done1 r now e).cleared) := by
  obtain ⟨o1, o2⟩ := done1_opn ho
  have hs3 : s.state = 0 ∨ s.state = 1 := by
    rcases h.three with x | x | x
    · exact .inl x
    · exact .inr x
    · exact absurd x h2
  unfold SB.done1
  cases hout : outB r e with
  | true =>
    have hs1 := o2 hout
    have hx : (s.state == 1) = false := by simpa using hs1
    rw [if_pos rfl, if_pos rfl, if_pos rfl]
    have e1 : ({ s with cnt := s.cnt.excl, opn := s.opn || (s.state == 1) } : SB) = { s with cnt := s.cnt.excl } := by rw [o1, hx]; simp
    rw [e1]
    exact ⟨h.put Cnt.excl (fun _ => rfl) (fun x => absurd x hs1), by simp, by dsimp only; omega, by dsimp only; omega, fun x => absurd x h2⟩
  | false =>
    simp only [Bool.false_eq_true, if_false]
    cases hg : goodB r e with
    | true =>
      simp only [if_true]
      obtain ⟨p1, p2, p3⟩ := put_tot h.len h.age Cnt.succ
      unfold CB.onSucc CB.onSuccTold
      rw [h.st, h.most, most_same m, p1, h.cnt]
      rcases hs3 with hs | hs
      · rw [if_pos hs, if_neg (c := s.state = 1 ∧ mostS r ≤ s.cnt.succ.g) (by omega), if_neg (c := s.state = 1 ∧ mostS r ≤ s.cnt.succ.g) (by omega)]
        exact ⟨h.put Cnt.succ (fun _ => rfl) (fun _ _ => rfl), by simp, by dsimp only; omega, by dsimp only; omega, fun x => absurd x h2⟩
      · rw [if_neg (c := s.state = 0) (by omega), if_pos hs]
        by_cases hm : mostS r ≤ s.cnt.succ.g
        · rw [if_pos hm, if_pos (c := s.state = 1 ∧ mostS r ≤ s.cnt.succ.g) ⟨hs, hm⟩, if_pos (c := s.state = 1 ∧ mostS r ≤ s.cnt.succ.g) ⟨hs, hm⟩]
          refine ⟨CRel.set (c := c.put Cnt.succ 0) (s := { s with cnt := s.cnt.succ }) m p2 h.most h.int h.tim h.gen h.cl0 (by dsimp only; omega) (.inl rfl) o1 n0 n1, ?_, ?_, ?_, ?_⟩
          · rw [set_chs]; dsimp only; rw [hs]
          · have e := set_cleared r 0 now { s with cnt := s.cnt.succ } h.cl0 (by dsimp only; omega); rw [e]; dsimp only; omega
          · have e := set_cleared r 0 now { s with cnt := s.cnt.succ } h.cl0 (by dsimp only; omega); rw [e]; dsimp only; omega
          · intro x; rw [set_state] at x; omega
        · rw [if_neg hm, if_neg (c := s.state = 1 ∧ mostS r ≤ s.cnt.succ.g) (by omega), if_neg (c := s.state = 1 ∧ mostS r ≤ s.cnt.succ.g) (by omega)]
          exact ⟨h.put Cnt.succ (fun _ => rfl) (fun _ _ => rfl), by simp, by dsimp only; omega, by dsimp only; omega, fun x => absurd x h2⟩
    | false =>
      simp only [Bool.false_eq_true, if_false]
      obtain ⟨p1, p2, p3⟩ := put_tot h.len h.age Cnt.fail
      unfold CB.onFail CB.onFailTold
      rw [h.st, p1, h.cnt]
      rcases hs3 with hs | hs
      · rw [if_pos hs, if_pos hs]
        by_cases ht : tripB r s.cnt.fail = true
        · rw [if_pos ht, if_pos ht, if_pos (c := s.state = 1 ∨ s.state = 0 ∧ tripB r s.cnt.fail = true) (.inr ⟨hs, ht⟩)]
          refine ⟨CRel.set (c := c.put Cnt.fail 0) (s := { s with cnt := s.cnt.fail }) m p2 h.most h.int h.tim h.gen h.cl0 (by dsimp only; omega) (.inr (.inr rfl)) o1 n0 n1, ?_, ?_, ?_, ?_⟩
          · rw [set_chs]; dsimp only; rw [hs]
          · have e := set_cleared r 2 now { s with cnt := s.cnt.fail } h.cl0 (by dsimp only; omega); rw [e]; dsimp only; omega
          · have e := set_cleared r 2 now { s with cnt := s.cnt.fail } h.cl0 (by dsimp only; omega); rw [e]; dsimp only; omega
          · intro x; have e := set_cleared r 2 now { s with cnt := s.cnt.fail } h.cl0 (by dsimp only; omega); rw [e]; dsimp only; omega
        · rw [if_neg ht, if_neg ht, if_neg (c := s.state = 1 ∨ s.state = 0 ∧ tripB r s.cnt.fail = true) (fun x => x.elim (fun y => by omega) (fun y => ht y.2))]
          exact ⟨h.put Cnt.fail (fun _ => rfl) (fun _ _ => rfl), by simp, by dsimp only; omega, by dsimp only; omega, fun x => absurd x h2⟩
      · rw [if_neg (c := s.state = 0) (by omega), if_neg (c := s.state = 0) (by omega), if_pos hs, if_pos hs, if_pos (c := s.state = 1 ∨ s.state = 0 ∧ tripB r s.cnt.fail = true) (.inl hs)]
        refine ⟨CRel.set (c := c) (s := { s with cnt := s.cnt.fail }) m h.len h.most h.int h.tim h.gen h.cl0 (by dsimp only; omega) (.inr (.inr rfl)) o1 n0 n1, ?_, ?_, ?_, ?_⟩
        · rw [set_chs]; dsimp only; rw [hs]
        · have e := set_cleared r 2 now { s with cnt := s.cnt.fail } h.cl0 (by dsimp only; omega); rw [e]; dsimp only; omega
        · have e := set_cleared r 2 now { s with cnt := s.cnt.fail } h.cl0 (by dsimp only; omega); rw [e]; dsimp only; omega
        · intro x; have e := set_cleared r 2 now { s with cnt := s.cnt.fail } h.cl0 (by dsimp only; omega); rw [e]; dsimp only; omega

theorem CRel.done {r : Rules} {c : CB} {s : SB} {now e g : Int} (m : r.Mild) (h : CRel r c s) (h1 : s.cleared ≤ 999990) (n0 : -3000000000000000000 ≤ now) (n1 : now ≤ 3000000000000000000) (hg : g ≤ s.cleared) (hg2 : s.state = 2 → g < s.cleared) (ho : (s.done r now g e).opn = false) :
    CRel r (c.after r (1 + g) 0 e now) (s.done r now g e) ∧ (s.done r now g e).chs = s.chs ++ c.afterTold r (1 + g) 0 e now ∧ s.cleared ≤ (s.done r now g e).cleared ∧ (s.done r now g e).cleared ≤ s.cleared + 2 ∧ ((s.done r now g e).state = 2 → s.cleared < (s.done r now g e).cleared ∨ (s.state = 2 ∧ (s.done r now g e).cleared = s.cleared)) := by
  have hol : (s.look r now).opn = false := by
    unfold SB.done at ho
    split at ho
    · exact ho
    · exact (done1_opn ho).1
  obtain ⟨l1, l2, l3, l4, l5⟩ := h.look m h1 n0 n1 hol
  have hgen := l1.gen
  unfold SB.done CB.after CB.afterTold at *
  by_cases hc : (s.look r now).cleared = g
  · rw [if_neg (by simp [hc])] at ho
    rw [if_neg (c := (s.look r now).cleared ≠ g) (by simp [hc]), if_neg (c := (c.look now).gen ≠ 1 + g) (by omega), if_neg (c := (c.look now).gen ≠ 1 + g) (by omega)]
    have h2 : (s.look r now).state ≠ 2 := by
      intro x
      obtain ⟨y, z⟩ := l5 x
      have := hg2 y
      omega
    obtain ⟨d1, d2, d3, d4, d5⟩ := l1.done1 (e := e) m (by omega) n0 n1 h2 ho
    exact ⟨d1, by rw [d2, l2, List.append_assoc], by omega, by omega, fun x => .inl (by have := d5 x; omega)⟩
  · rw [if_pos (c := (s.look r now).cleared ≠ g) hc, if_pos (c := (c.look now).gen ≠ 1 + g) (by omega), if_pos (c := (c.look now).gen ≠ 1 + g) (by omega)]
    exact ⟨l1, by rw [l2]; simp, l3, by omega, fun x => .inr (l5 x)⟩

/-- The whole of both. -/
structure PRel (r : Rules) (n : Nat) (p : Play) (q : SPlay) : Prop where
  c : CRel r p.c q.s
  now : p.now = q.now
  chs : p.chs = q.s.chs
  dn : p.dones = q.went.map (fun g => (1 + g, 0))
  dl : q.done.length = q.went.length
  wle : ∀ g ∈ q.went, g ≤ q.s.cleared ∧ (q.s.state = 2 → g < q.s.cleared)
  out : p.out = q.out
  few : q.s.cleared ≤ 2 * n
  now0 : -1000000000000000 ≤ q.now
  now1 : q.now ≤ 1000000000000000 + 1000000000000000 * n

theorem PRel.start {r : Rules} (m : r.Mild) {now : Int} (n0 : -1000000000000000 ≤ now) (n1 : now ≤ 1000000000000000) : PRel r 0 (Play.start r now) (SPlay.start r now) ∧ (Play.start r now).c.gen = 1 := by
  have h := CRel.clear (c := { freshCB r with gen := 1 }) (s := SB.zero) (now := now) m rfl rfl rfl rfl rfl (show (1 : Int) = 1 + 0 by decide) (by decide) (by decide) (.inl rfl) rfl (by omega) (by omega)
  have hg : (Play.start r now).c.gen = 1 := show w64u (0 + 1) = 1 by decide
  have hc : CRel r (Play.start r now).c (SPlay.start r now).s := ⟨h.st, h.cnt, h.len, h.age, h.most, h.int, h.tim, hg, by show (0 : Int) ≤ 0; omega, h.exp, h.fin, h.tim1, h.tim2, h.three, h.x0, h.r0, h.r1, h.opn⟩
  exact ⟨⟨hc, rfl, rfl, rfl, rfl, by intro g hg; simp [SPlay.start] at hg, rfl, by show (0 : Int) ≤ _; omega, n0, by simpa [SPlay.start] using n1⟩, hg⟩

theorem actOk_parts {a : Act} (h : actOk a = true) : (a.kind = 0 ∨ a.kind = 1 ∨ a.kind = 2) ∧ 0 ≤ a.wait ∧ a.wait ≤ 1000000000000000 ∧ 0 ≤ a.err ∧ a.err ≤ 6 := by
  unfold actOk isWait isError at h
  simp at h
  obtain ⟨h1, h2, ⟨h3, h4⟩, h5, h6⟩ := h
  exact ⟨by omega, h3, h4, h5, by omega⟩

theorem sw_opn {r : Rules} {q : SPlay} {a : Act} (h : (q.sw r a).s.opn = false) : q.s.opn = false := by
  unfold SPlay.sw at h
  split at h
  · exact look_opn0 h
  · split at h
    · have h' : ((q.s.look r (q.now + a.wait)).allow1 r).opn = false := h
      unfold SB.allow1 at h'
      split at h'
      · exact look_opn0 h'
      · exact look_opn0 h'
    · have h' : (q.s.done r (q.now + a.wait) (q.went.getD a.call.toNat 0) a.err).opn = false := h
      unfold SB.done at h'
      split at h'
      · exact look_opn0 h'
      · exact look_opn0 (done1_opn h').1
theorem run_opn {r : Rules} {l : List Act} {q q' : SPlay} (h : SPlay.run r q l = some q') (ho : q'.s.opn = false) : q.s.opn = false := by
  induction l generalizing q with
  | nil => simp [SPlay.run] at h; subst h; exact ho
  | cons a l ih =>
    unfold SPlay.run at h
    split at h
    · cases h
    · have x : (q.act r a).s.opn = false := ih h
      exact sw_opn (r := r) (a := a) x

theorem PRel.act {r : Rules} {n : Nat} {p : Play} {q : SPlay} {a : Act} (m : r.Mild) (h : PRel r n p q) (hn : n ≤ 2000) (ha : actOk a = true) (hb : q.bad a = false) (ho : (q.sw r a).s.opn = false) : p.Can a ∧ PRel r (n + 1) (p.act r 1 a) (q.act r a) := by
  obtain ⟨hk, w0, w1, e0, e1⟩ := actOk_parts ha
  have hf := h.few
  have hnow := h.now
  have b0 := h.now0
  have b1 := h.now1
  have hc : a.kind = 2 → (0 ≤ a.call ∧ a.call < q.went.length) ∧ q.done.getD a.call.toNat false = false := by
    intro hk2
    unfold SPlay.bad at hb
    simp [hk2] at hb
    obtain ⟨x, y, z⟩ := hb
    exact ⟨⟨by omega, by omega⟩, by simpa using z⟩
  have hdl : p.dones.length = q.went.length := by rw [h.dn]; simp
  refine ⟨⟨hk, w0, by omega, by omega, fun x => ⟨(hc x).1.1, by rw [hdl]; exact (hc x).1.2⟩, e0, e1⟩, ?_⟩
  rcases hk with hk | hk | hk
  · have s1 : p.sw r a = { p with now := p.now + a.wait, c := p.c.look (p.now + a.wait), chs := p.chs ++ p.c.lookTold (p.now + a.wait) } := by unfold Play.sw; rw [if_pos hk]
    have s2 : q.sw r a = { q with now := q.now + a.wait, s := q.s.look r (q.now + a.wait) } := by unfold SPlay.sw; rw [if_pos hk]
    rw [s2] at ho
    obtain ⟨l1, l2, l3, l4, l5⟩ := h.c.look m (by omega) (now := q.now + a.wait) (by omega) (by omega) ho
    unfold Play.act SPlay.act Play.code Play.state SPlay.code SPlay.state
    have k1 : ¬ a.kind = 1 := by omega
    rw [s1, s2]
    simp only [if_neg k1, if_pos hk]
    rw [← hnow] at l1 l2 l3 l4 l5 ⊢
    refine ⟨l1, rfl, by dsimp only; rw [l2, h.chs], h.dn, h.dl, ?_, ?_, ?_, ?_, ?_⟩
    · intro g hg
      obtain ⟨x, y⟩ := h.wle g hg
      exact ⟨by dsimp only; omega, fun z => by obtain ⟨z1, z2⟩ := l5 z; have := y z1; dsimp only; omega⟩
    · dsimp only
      rw [l1.st, l1.cnt, l1.gen, show 1 + (q.s.look r (p.now + a.wait)).cleared - 1 = (q.s.look r (p.now + a.wait)).cleared by omega, w64u_small l1.cl0 (by omega), h.out]
    · dsimp only; omega
    · dsimp only; omega
    · dsimp only; omega
  · have s1 : p.sw r a = { p with now := p.now + a.wait, c := (p.c.look (p.now + a.wait)).before1, chs := p.chs ++ p.c.lookTold (p.now + a.wait), dones := if (p.c.look (p.now + a.wait)).beforeCode = 0 then p.dones ++ [((p.c.look (p.now + a.wait)).gen, (p.c.look (p.now + a.wait)).rc.age)] else p.dones } := by unfold Play.sw; rw [if_neg (by omega), if_pos hk]
    have s2 : q.sw r a = { q with now := q.now + a.wait, s := (q.s.look r (q.now + a.wait)).allow1 r, went := if (q.s.look r (q.now + a.wait)).allowCode r = 0 then q.went ++ [(q.s.look r (q.now + a.wait)).cleared] else q.went, done := if (q.s.look r (q.now + a.wait)).allowCode r = 0 then q.done ++ [false] else q.done } := by unfold SPlay.sw; rw [if_neg (by omega), if_pos hk]
    have ho1 : (q.s.look r (q.now + a.wait)).opn = false := by
      rw [s2] at ho
      have h' : ((q.s.look r (q.now + a.wait)).allow1 r).opn = false := ho
      unfold SB.allow1 at h'
      split at h'
      · exact h'
      · exact h'
    obtain ⟨l1, l2, l3, l4, l5⟩ := h.c.look m (by omega) (now := q.now + a.wait) (by omega) (by omega) ho1
    obtain ⟨m1, m2⟩ := l1.allow m
    have f1 : ((q.s.look r (q.now + a.wait)).allow1 r).chs = (q.s.look r (q.now + a.wait)).chs := by unfold SB.allow1; split <;> rfl
    have f2 : ((q.s.look r (q.now + a.wait)).allow1 r).cleared = (q.s.look r (q.now + a.wait)).cleared := by unfold SB.allow1; split <;> rfl
    have f3 : ((q.s.look r (q.now + a.wait)).allow1 r).state = (q.s.look r (q.now + a.wait)).state := by unfold SB.allow1; split <;> rfl
    unfold Play.act SPlay.act Play.code Play.state SPlay.code SPlay.state
    have k0 : ¬ a.kind = 0 := by omega
    rw [s1, s2]
    simp only [if_neg k0, if_pos hk]
    rw [← hnow] at l1 l2 l3 l4 l5 m1 m2 f1 f2 f3 ⊢
    refine ⟨m1, rfl, by dsimp only; rw [f1, l2, h.chs], ?_, ?_, ?_, ?_, ?_, ?_, ?_⟩
    · dsimp only
      by_cases hcode : (q.s.look r (p.now + a.wait)).allowCode r = 0
      · rw [m2, if_pos hcode, if_pos hcode, List.map_append, ← h.dn, l1.gen, l1.age]; rfl
      · rw [m2, if_neg hcode, if_neg hcode]; exact h.dn
    · dsimp only
      split
      · simp [h.dl]
      · exact h.dl
    · dsimp only
      intro g hg
      rw [f2, f3]
      have old : g ∈ q.went → g ≤ (q.s.look r (p.now + a.wait)).cleared ∧ ((q.s.look r (p.now + a.wait)).state = 2 → g < (q.s.look r (p.now + a.wait)).cleared) := by
        intro hg'
        obtain ⟨x, y⟩ := h.wle g hg'
        exact ⟨by omega, fun z => by obtain ⟨z1, z2⟩ := l5 z; have := y z1; omega⟩
      split at hg
      · next hcode =>
        rw [List.mem_append] at hg
        rcases hg with hg | hg
        · exact old hg
        · simp at hg
          refine ⟨by omega, fun z => ?_⟩
          unfold SB.allowCode at hcode
          rw [if_pos z] at hcode
          omega
      · exact old hg
    · dsimp only
      rw [m2, m1.cnt, m1.gen, show 1 + ((q.s.look r (p.now + a.wait)).allow1 r).cleared - 1 = ((q.s.look r (p.now + a.wait)).allow1 r).cleared by omega, w64u_small m1.cl0 (by omega), h.out]
    · dsimp only; omega
    · dsimp only; omega
    · dsimp only; omega
  · obtain ⟨⟨c0, c1⟩, c2⟩ := hc hk
    obtain ⟨k, hkk⟩ : ∃ k : Nat, a.call = (k : Int) := ⟨a.call.toNat, by omega⟩
    have hkl : k < q.went.length := by omega
    have hgd : q.went.getD a.call.toNat 0 = q.went[k] := by rw [hkk]; simp [List.getD, hkl]
    have hpd : p.dones.getD a.call.toNat (0, 0) = (1 + q.went[k], 0) := by rw [hkk, h.dn]; simp [List.getD, hkl]
    have s1 : p.sw r a = { p with now := p.now + a.wait, c := p.c.after r (1 + q.went[k]) 0 a.err (p.now + a.wait), chs := p.chs ++ p.c.afterTold r (1 + q.went[k]) 0 a.err (p.now + a.wait) } := by unfold Play.sw; rw [if_neg (by omega), if_neg (by omega), hpd]
    have s2 : q.sw r a = { q with now := q.now + a.wait, s := q.s.done r (q.now + a.wait) q.went[k] a.err, done := q.done.set a.call.toNat true } := by unfold SPlay.sw; rw [if_neg (by omega), if_neg (by omega), hgd]
    rw [s2] at ho
    obtain ⟨x0, y0⟩ := h.wle q.went[k] (List.getElem_mem hkl)
    obtain ⟨l1, l2, l3, l4, l5⟩ := h.c.done (e := a.err) m (by omega) (now := q.now + a.wait) (by omega) (by omega) x0 y0 ho
    unfold Play.act SPlay.act Play.code Play.state SPlay.code SPlay.state
    have k0 : ¬ a.kind = 0 := by omega
    have k1 : ¬ a.kind = 1 := by omega
    rw [s1, s2]
    simp only [if_neg k0, if_neg k1]
    rw [← hnow] at l1 l2 l3 l4 l5 ⊢
    refine ⟨l1, rfl, by dsimp only; rw [l2, h.chs], h.dn, by dsimp only; simpa using h.dl, ?_, ?_, ?_, ?_, ?_⟩
    · intro g hg
      obtain ⟨x, y⟩ := h.wle g hg
      refine ⟨by dsimp only; omega, fun z => ?_⟩
      rcases l5 z with z | ⟨z1, z2⟩
      · dsimp only; omega
      · have := y z1; dsimp only; omega
    · dsimp only
      rw [l1.cnt, l1.gen, show 1 + (q.s.done r (p.now + a.wait) q.went[k] a.err).cleared - 1 = (q.s.done r (p.now + a.wait) q.went[k] a.err).cleared by omega, w64u_small l1.cl0 (by omega), h.out]
    · dsimp only; omega
    · dsimp only; omega
    · dsimp only; omega

theorem PRel.run {r : Rules} (m : r.Mild) (l : List Act) {n : Nat} {p : Play} {q q' : SPlay} (h : PRel r n p q) (hn : n + l.length ≤ 2001) (ha : l.all actOk = true) (hr : SPlay.run r q l = some q') (ho : q'.s.opn = false) : Play.Fine r 1 p l ∧ PRel r (n + l.length) (Play.run r 1 p l) q' := by
  induction l generalizing n p q with
  | nil => simp [SPlay.run] at hr; subst hr; exact ⟨trivial, h⟩
  | cons a l ih =>
    simp at ha hn
    unfold SPlay.run at hr
    cases hb : q.bad a with
    | true => rw [if_pos hb] at hr; cases hr
    | false =>
      rw [if_neg (by simp [hb])] at hr
      obtain ⟨x, y⟩ := h.act m (by omega) ha.1 hb (show (q.act r a).s.opn = false from run_opn hr ho)
      obtain ⟨z1, z2⟩ := ih y (by omega) (by simpa using ha.2) hr
      exact ⟨⟨x, z1⟩, by rw [List.length_cons, show n + (l.length + 1) = n + 1 + l.length by omega]; exact z2⟩

/-- What follows of rules and acts within the bounds. -/
structure Law (r : Rules) (start : Int) (l : List Act) (q : SPlay) : Prop where
  run : SPlay.run r (SPlay.start r start) l = some q
  gen : (Play.start r start).c.gen = 1
  fine : Play.Fine r 1 (Play.start r start) l
  rel : PRel r l.length (Play.run r 1 (Play.start r start) l) q

theorem areRules_parts {r : Rules} (h : areRules r = true) : 0 ≤ r.trip ∧ r.trip ≤ 5 ∧ r.bucket ≤ 0 ∧ isTime r.interval = true ∧ isTime r.timeout = true := by
  unfold areRules at h
  simp at h
  exact ⟨h.1, h.2.1, h.2.2.2.1, h.2.2.2.2.1, h.2.2.2.2.2.1⟩
theorem isTime_parts {t : Int} (h : isTime t = true) : -1000000000000000 ≤ t ∧ t ≤ 1000000000000000 := by
  unfold isTime at h; simpa using h
theorem mild_of {r : Rules} (h : areRules r = true) (m0 : 0 ≤ r.most) (m1 : r.most < 4294967296) : r.Mild := by
  obtain ⟨_, _, _, hi, ht⟩ := areRules_parts h
  obtain ⟨a, b⟩ := isTime_parts hi
  obtain ⟨c, d⟩ := isTime_parts ht
  exact ⟨by omega, by omega, by omega, by omega, m0, m1⟩
theorem areActs_parts {r : Rules} {start : Int} {l : List Act} (h : areActs r start l = true) : areRules r = true ∧ isTime start = true ∧ l.length ≤ 2000 ∧ l.all actOk = true ∧ ∃ q, SPlay.run r (SPlay.start r start) l = some q ∧ q.s.opn = false := by
  unfold areActs at h
  simp only [Bool.and_eq_true, decide_eq_true_eq] at h
  obtain ⟨h1, h2, h3, h4, h5⟩ := h
  refine ⟨h1, h2, h3, h4, ?_⟩
  unfold twoOk at h5
  split at h5
  · cases h5
  · next q hq => exact ⟨q, hq, by simpa using h5⟩
theorem law {r : Rules} {start : Int} {l : List Act} (h : areActs r start l = true) (m0 : 0 ≤ r.most) (m1 : r.most < 4294967296) : ∃ q, Law r start l q := by
  obtain ⟨h1, h2, h3, h4, q, hq, ho⟩ := areActs_parts h
  have m := mild_of h1 m0 m1
  obtain ⟨a, b⟩ := isTime_parts h2
  obtain ⟨s1, s2⟩ := PRel.start m a b
  obtain ⟨x, y⟩ := PRel.run m l s1 (by omega) h4 hq ho
  exact ⟨q, hq, s2, x, by rw [Nat.zero_add] at y; exact y⟩

end Go.Proofs.YtcjklacfoldaoaaGreat

/- Nothing is due behind a look at the clock (plain). No condition. -/
namespace Go.Proofs.YtcjklacfoldaoaaGreat
open Go.RowKit

/-- Nothing is due at a time. -/
def Fresh (s : SB) (now : Int) : Prop := s.timed = true → now < s.fin
theorem fresh_clear {r : Rules} {s : SB} {now : Int} : Fresh (SB.clear r now s) now := by
  intro ht
  unfold SB.clear at ht ⊢
  dsimp only at ht ⊢
  by_cases h0 : s.state = 0
  · rw [if_pos h0] at ht ⊢
    have : 0 < r.interval := by simpa using ht
    omega
  · rw [if_neg h0] at ht ⊢
    by_cases h2 : s.state = 2
    · rw [if_pos h2]; split <;> omega
    · rw [if_neg h2] at ht; cases ht
theorem fresh_look {r : Rules} {s : SB} {now : Int} (ho : (s.look r now).opn = false) : Fresh (s.look r now) now := by
  by_cases ht : s.timed = true
  · obtain ⟨_, o2⟩ := look_opn ho ht
    unfold SB.look
    rw [if_neg (by simp [ht])]
    by_cases hl : now ≤ s.fin
    · rw [if_pos hl]; intro _; dsimp only; omega
    · rw [if_neg hl]
      split
      · exact fresh_clear
      · exact fresh_clear
  · have e : s.look r now = s := by unfold SB.look; rw [if_pos (by simpa using ht)]
    rw [e]; intro h; exact absurd h ht
theorem fresh_same {r : Rules} {s : SB} {now : Int} (h : Fresh s now) (ho : s.opn = false) : s.look r now = s := by
  unfold SB.look
  by_cases ht : s.timed = false
  · rw [if_pos ht]
  · have := h (by simpa using ht)
    rw [if_neg ht, if_pos (by omega)]
    exact SB.opn_eta ho (beq_eq_false_iff_ne.2 (by omega))
theorem fresh_allow {r : Rules} {s : SB} {now : Int} (h : Fresh s now) : Fresh (s.allow1 r) now := by
  unfold SB.allow1; split
  · exact h
  · exact h
theorem fresh_done {r : Rules} {s : SB} {now cl e : Int} (ho : (s.done r now cl e).opn = false) : Fresh (s.done r now cl e) now := by
  unfold SB.done at ho ⊢
  split at ho
  · next hc => rw [if_pos hc]; exact fresh_look ho
  · next hc =>
    rw [if_neg hc]
    have hf := fresh_look (done1_opn ho).1
    unfold SB.done1
    split
    · exact hf
    · split
      · split
        · exact fresh_clear
        · exact hf
      · split
        · exact fresh_clear
        · exact hf

end Go.Proofs.YtcjklacfoldaoaaGreat
