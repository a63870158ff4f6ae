import Derived.Deep.LoopGhost
import Derived.Deep.DeepCutAuto
import Derived.Test.YtcjklacfoldaoaaPlayC
import Derived.Test.YtcjklacfoldaoaaSpecK
import Derived.Test.YtcjklacfoldaoaaSpecL
import Derived.Test.YtcjklacfoldaoaaLaw
/- The statements' Calls as plain data, and what lies where in its rounds. No condition. -/
namespace Go.Proofs.Ytcjklacfoldaoaa
open Go.RowKit

structure SC where
  s : SB
  now : Int
  out : List Told
namespace SC
def start (r : Rules) (now : Int) : SC := ⟨SB.new r now, now, []⟩
def look (r : Rules) (p : SC) (k : Call) : SB := p.s.look r (p.now + k.wait)
def went (r : Rules) (p : SC) (k : Call) : SB := ((p.look r k).allow1 r).done r (p.now + k.wait + k.long) ((p.look r k).allow1 r).cleared (execErr k)
def sb (r : Rules) (p : SC) (k : Call) : SB := if (p.look r k).allowCode r = 0 then p.went r k else (p.look r k).allow1 r
def now' (r : Rules) (p : SC) (k : Call) : Int := if (p.look r k).allowCode r = 0 then p.now + k.wait + k.long else p.now + k.wait
def told (r : Rules) (p : SC) (k : Call) : Told := if (p.look r k).allowCode r = 0 then (if k.pan then ⟨true, 0, 0, true, Cnt.zero⟩ else ⟨true, k.val, k.err, false, Cnt.zero⟩) else ⟨false, 0, -(p.look r k).allowCode r, false, Cnt.zero⟩
def step (r : Rules) (p : SC) (k : Call) : SC := ⟨p.sb r k, p.now' r k, p.out ++ [{ p.told r k with cnt := (p.sb r k).cnt }]⟩
def run (r : Rules) (p : SC) (l : List Call) : SC := l.foldl (step r) p
def fin (r : Rules) (p : SC) : SB := p.s.look r p.now
theorem run_drop (r : Rules) (p : SC) {l : List Call} {i : Nat} {a : Call} (h : l[i]? = some a) : run r p (l.drop i) = run r (p.step r a) (l.drop (i + 1)) := by
  have hi : i < l.length := by
    rcases Nat.lt_or_ge i l.length with h' | h'
    · exact h'
    · rw [List.getElem?_eq_none h'] at h; cases h
  rw [List.drop_eq_getElem_cons hi]
  rw [List.getElem?_eq_getElem hi] at h
  simp at h
  rw [h]; rfl
theorem sb_three {r : Rules} {p : SC} (h : p.s.Three) (k : Call) : (p.sb r k).Three := by
  unfold sb went look
  have h1 := SPlay.allow_three (h.look r (p.now + k.wait)) r
  split
  · exact h1.done r _ _ _
  · exact h1
theorem sb_chs (r : Rules) (p : SC) (k : Call) : (p.sb r k).chs.length ≤ p.s.chs.length + 3 := by
  have h1 := SB.look_chs p.s r (p.now + k.wait)
  have h2 : ((p.s.look r (p.now + k.wait)).allow1 r).chs.length = (p.s.look r (p.now + k.wait)).chs.length := by unfold SB.allow1; split <;> rfl
  unfold sb went look
  split
  · have := SB.done_chs ((p.s.look r (p.now + k.wait)).allow1 r) r (p.now + k.wait + k.long) ((p.s.look r (p.now + k.wait)).allow1 r).cleared (execErr k)
    omega
  · omega
end SC
def callOk (k : Call) : Bool := isWait k.wait && (isWait k.long && isError k.err)
def areCalls (r : Rules) (start : Int) (l : List Call) : Bool := areRules r && (isTime start && (decide (l.length ≤ 1000) && (l.all callOk && !((SC.run r (SC.start r start) l).fin r).opn)))
theorem callOk_parts {k : Call} (h : callOk k = true) : 0 ≤ k.wait ∧ k.wait ≤ 1000000000000000 ∧ 0 ≤ k.long ∧ k.long ≤ 1000000000000000 ∧ 0 ≤ k.err ∧ k.err ≤ 6 := by
  unfold callOk isWait isError at h
  simp at h
  obtain ⟨⟨h1, h2⟩, ⟨h3, h4⟩, h5, h6⟩ := h
  exact ⟨h1, h2, h3, h4, h5, by omega⟩
theorem calls_get {l : List Call} (h : l.all callOk = true) {i : Nat} {a : Call} (hi : l[i]? = some a) : callOk a = true := by
  rw [List.all_eq_true] at h
  exact h a (List.mem_of_getElem? hi)
theorem execErr_in {k : Call} (h0 : 0 ≤ k.err) (h1 : k.err ≤ 6) : 0 ≤ execErr k ∧ execErr k ≤ 7 := by unfold execErr; split <;> omega

/-- Where everything lies ahead of a round. -/
structure KSt (w0 : World) (b : Nat) (r : Rules) (wx : World) (q : SC) (cr : Nat) (ov : Value) : Prop where
  sb : SBat wx b cr r q.s
  ot : wx.ownsRow w0.heap.size 63 10 ov q.out.length (toldFlat q.out)
  os : ∀ g, ov.ownBlock = some g → g ≠ b ∧ g ≠ cr
  b0 : w0.heap.size ≤ b
  c0 : w0.heap.size ≤ cr
  bel : Below w0.heap.size w0 wx
section
variable {w0 wx wy : World} {b cr : Nat} {r : Rules} {q : SC} {ov : Value}
theorem KSt.go (h : KSt w0 b r wx q cr ov) {s' : SB} {cr' : Nat} (s : SBat wy b cr' r s') (k : cr' = cr ∨ wx.heap.size ≤ cr') (m : Mod [b, cr] wx wy) : KSt w0 b r wy { q with s := s' } cr' ov := by
  have hz := h.bel.size
  have c0 := h.c0
  refine ⟨s, owns_keep h.ot fun g hg => m.block g (h.ot.lt g hg).2 (by simpa using h.os g hg), SSt.next_ne h.os (fun g hg => (h.ot.lt g hg).2) k, h.b0, ?_, h.bel.trans (m.below_of hz ?_)⟩
  · rcases k with k | k <;> omega
  · have := h.b0
    intro i hi
    simp at hi
    omega
theorem KSt.below (h : KSt w0 b r wx q cr ov) (bb : Below wx.heap.size wx wy) : KSt w0 b r wy q cr ov := by
  have m : Mod [] wx wy := Mod.of_below bb
  exact ⟨h.sb.keep m (by simp) (by simp), owns_keep h.ot fun g hg => m.block g (h.ot.lt g hg).2 (by simp), h.os, h.b0, h.c0, h.bel.trans (bb.mono h.bel.size)⟩
theorem KSt.alloc (h : KSt w0 b r wx q cr ov) (o : Obj) : KSt w0 b r (wx.alloc o) q cr ov := h.below ((Below.refl _ _).alloc (Nat.le_refl _) _)
theorem KSt.drew (h : KSt w0 b r wx q cr ov) : KSt w0 b r wx.drew q cr ov := h.below (Below.refl _ _).drew
theorem KSt.set (h : KSt w0 b r wx q cr ov) {g : Nat} (hb : g ≠ b) (hc : g ≠ cr) (ho : ov.ownBlock ≠ some g) (h0 : w0.heap.size ≤ g) (m : Mod [g] wx wy) : KSt w0 b r wy q cr ov :=
  ⟨h.sb.keep m (by simpa using hb.symm) (by simpa using hc.symm), owns_keep h.ot fun k hk => m.block k (h.ot.lt k hk).2 (by simp; rintro rfl; exact ho hk), h.os, h.b0, h.c0, h.bel.trans (m.below_of h.bel.size (by simpa using h0))⟩
theorem KSt.cast (h : KSt w0 b r wx q cr ov) {q' : SC} (e1 : q'.s = q.s) (e4 : q'.out = q.out) : KSt w0 b r wx q' cr ov := ⟨by rw [e1]; exact h.sb, by rw [e4]; exact h.ot, h.os, h.b0, h.c0, h.bel⟩
theorem KSt.pushOut (h : KSt w0 b r wx q cr ov) {x : Told} {g cap : Nat} (hown : wy.ownsRow w0.heap.size 63 10 (.slice (some ⟨g, 0, none⟩) (q.out.length + 1) cap) (q.out.length + 1) (toldFlat q.out ++ toldRow x)) (hgrow : wx.grownBy wy ov.ownBlock) (hat : ov.ownBlock = some g ∨ g = wx.heap.size) :
    KSt w0 b r wy { q with out := q.out ++ [x] } cr (.slice (some ⟨g, 0, none⟩) (q.out.length + 1) cap) := by
  have key : SBat wy b cr r q.s ∧ Below w0.heap.size w0 wy := by
    cases hrow : ov.ownBlock with
    | none =>
      rw [hrow] at hgrow
      have bb : Below wx.heap.size wx wy := ⟨hgrow.os, hgrow.tape, hgrow.output, hgrow.size, fun k hk => hgrow.block k hk (by simp)⟩
      exact ⟨(h.below bb).sb, (h.below bb).bel⟩
    | some k =>
      rw [hrow] at hgrow
      obtain ⟨a, c⟩ := h.os k hrow
      have m : Mod [k] wx wy := Mod.of_grown hgrow (by intro j hj; simp at hj; simp [hj])
      exact ⟨h.sb.keep m (by simpa using a.symm) (by simpa using c.symm), h.bel.trans (m.below_of h.bel.size (by simpa using (h.ot.lt k hrow).1))⟩
  refine ⟨key.1, by rw [toldFlat_snoc, List.length_append]; exact hown, ?_, h.b0, h.c0, key.2⟩
  intro k hk
  simp [Value.ownBlock] at hk
  subst hk
  have h1 := h.sb.blt
  have h2 := h.sb.crlt
  rcases hat with e | e
  · exact h.os _ e
  · omega
end

end Go.Proofs.Ytcjklacfoldaoaa

/- Contracts of SameChanges and SameTold: the same rows are the same. Condition: both rows hold the same. -/
namespace Go.Proofs.Ytcjklacfoldaoaa
open Go.RowKit
attribute [local go_sem ↓] Go.wp_at_zero Go.wp_at_succ

theorem chFlat_get {l : List (Int × Int)} {i : Nat} {x : Int × Int} (h : l[i]? = some x) : (chFlat l)[i * 2]? = some (.int .i64 x.1) ∧ (chFlat l)[i * 2 + 1]? = some (.int .i64 x.2) := by
  induction l generalizing i with
  | nil => simp at h
  | cons a l ih =>
    cases i with
    | zero => simp at h; subst h; simp [chFlat]
    | succ i =>
      obtain ⟨p, q⟩ := ih (i := i) (by simpa using h)
      have e : (i + 1) * 2 = [Value.int IntKind.i64 a.1, .int .i64 a.2].length + i * 2 := by simp; omega
      have e' : (i + 1) * 2 + 1 = [Value.int IntKind.i64 a.1, .int .i64 a.2].length + (i * 2 + 1) := by simp; omega
      simp only [chFlat, List.flatMap_cons]
      rw [e', e, List.getElem?_append_right (by omega), List.getElem?_append_right (by omega)]
      constructor
      · simpa [chFlat] using p
      · simpa [chFlat] using q
theorem toldFlat_get {l : List Told} {i : Nat} {x : Told} (h : l[i]? = some x) {j : Nat} (hj : j < 10) : (toldFlat l)[i * 10 + j]? = (toldRow x)[j]? := by
  induction l generalizing i with
  | nil => simp at h
  | cons a l ih =>
    cases i with
    | zero =>
      simp at h
      subst h
      simp only [toldFlat, List.flatMap_cons, Nat.zero_mul, Nat.zero_add]
      rw [List.getElem?_append_left (by simpa [toldRow] using hj)]
    | succ i =>
      have e : (i + 1) * 10 + j = (toldRow a).length + (i * 10 + j) := by simp [toldRow]; omega
      simp only [toldFlat, List.flatMap_cons]
      rw [e, List.getElem?_append_right (by omega)]
      have := ih (i := i) (by simpa using h)
      simpa [toldFlat] using this

theorem below_drewN {B : Nat} {w : World} (n : Nat) : Below B w (w.drewN n) := ⟨rfl, rfl, rfl, Nat.le_refl _, fun _ _ => rfl⟩
theorem row_part {w : World} {base : Nat} {e : TypeId} {size n : Nat} {p : Option Addr} {cap : Nat} {xs : List Value} (h : w.ownsRow base e size (.slice p n cap) n xs) (hn : n ≠ 0) : ∃ g, p = some ⟨g, 0, none⟩ ∧ ∀ (j : Nat) (u : Value), xs[j]? = some u → w.cell? ⟨g, j, none⟩ = some u := by
  obtain ⟨g, c, cs, he, _, _, _, hc⟩ := row_slice h hn
  cases he
  exact ⟨g, rfl, hc⟩

set_option maxRecDepth 100000 in
set_option maxHeartbeats 2000000 in
theorem sameChanges_any (va vb : Value) (l : List (Int × Int)) (w : World) (ba bb : Nat) (h1 : w.ownsRow ba 34 2 va l.length (chFlat l)) (h2 : w.ownsRow bb 34 2 vb l.length (chFlat l)) (hl : l.length ≤ 1000000) :
    Calls Try.prog 22 #[va, vb] w fun e w' => e = .returned (.bool true) ∧ Below w.heap.size w w' := by
  obtain ⟨pa, ca, rfl⟩ := row_len h1
  obtain ⟨pb, cb, rfl⟩ := row_len h2
  have H1 := Lib.hid h1
  have H2 := Lib.hid h2
  clear h1 h2
  go_enter Try.func22, Try.ntmps22
  go_wp2_with fail
  go_loopg [13] l.length (fun g s13 wx => ∃ i : Nat, g = l.length - i ∧ i ≤ l.length ∧ s13 = .int .i64 (i : Int) ∧ ∃ n, wx = w.drewN n)
  case atStart => exact ⟨0, rfl, Nat.zero_le _, rfl, 0, rfl⟩
  case round =>
    obtain ⟨i, rfl, hi, rfl, n, rfl⟩ := hrel
    by_cases hin : i < l.length
    · have hiz : (i : Int) < (l.length : Int) := by omega
      obtain ⟨x, hx⟩ : ∃ x, l[i]? = some x := ⟨_, List.getElem?_eq_getElem hin⟩
      obtain ⟨g1, rfl, c1⟩ := row_part H1.out (by omega)
      obtain ⟨g2, rfl, c2⟩ := row_part H2.out (by omega)
      obtain ⟨p, q⟩ := chFlat_get hx
      have a1 := c1 _ _ p
      have a2 := c1 _ _ q
      have a3 := c2 _ _ p
      have a4 := c2 _ _ q
      clear c1 c2 p q hx
      go_upto_region 6 with fail
      go_region
      go_wp2_with fail
      go_roundg (l.length - (i + 1))
      case measure => omega
      case rel => exact ⟨i + 1, rfl, hin, by first | rfl | simp, n + 1, rfl⟩
    · have hiz : ¬ ((i : Int) < (l.length : Int)) := by omega
      go_wp2_with fail
      go_ret
      exact ⟨rfl, below_drewN n⟩

set_option maxRecDepth 100000 in
set_option maxHeartbeats 2000000 in
theorem sameTold_any (va vb : Value) (l : List Told) (w : World) (ba bb : Nat) (h1 : w.ownsRow ba 63 10 va l.length (toldFlat l)) (h2 : w.ownsRow bb 63 10 vb l.length (toldFlat l)) (hl : l.length ≤ 1000000) :
    Calls Try.prog 28 #[va, vb] w fun e w' => e = .returned (.bool true) ∧ Below w.heap.size w w' := by
  obtain ⟨pa, ca, rfl⟩ := row_len h1
  obtain ⟨pb, cb, rfl⟩ := row_len h2
  have H1 := Lib.hid h1
  have H2 := Lib.hid h2
  clear h1 h2
  go_enter Try.func28, Try.ntmps28
  go_wp2_with fail
  go_loopg [13] l.length (fun g s13 wx => ∃ i : Nat, g = l.length - i ∧ i ≤ l.length ∧ s13 = .int .i64 (i : Int) ∧ ∃ n, wx = w.drewN n)
  case atStart => exact ⟨0, rfl, Nat.zero_le _, rfl, 0, rfl⟩
  case round =>
    obtain ⟨i, rfl, hi, rfl, n, rfl⟩ := hrel
    by_cases hin : i < l.length
    · have hiz : (i : Int) < (l.length : Int) := by omega
      obtain ⟨x, hx⟩ : ∃ x, l[i]? = some x := ⟨_, List.getElem?_eq_getElem hin⟩
      obtain ⟨g1, rfl, c1⟩ := row_part H1.out (by omega)
      obtain ⟨g2, rfl, c2⟩ := row_part H2.out (by omega)
      have ac10 : w.cell? ⟨g1, i * 10, none⟩ = some (.bool x.ran) := c1 _ _ ((toldFlat_get hx (j := 0) (by omega)).trans rfl)
      have ac20 : w.cell? ⟨g2, i * 10, none⟩ = some (.bool x.ran) := c2 _ _ ((toldFlat_get hx (j := 0) (by omega)).trans rfl)
      have ac11 : w.cell? ⟨g1, i * 10 + 1, none⟩ = some (.int .i64 x.val) := c1 _ _ ((toldFlat_get hx (j := 1) (by omega)).trans rfl)
      have ac21 : w.cell? ⟨g2, i * 10 + 1, none⟩ = some (.int .i64 x.val) := c2 _ _ ((toldFlat_get hx (j := 1) (by omega)).trans rfl)
      have ac12 : w.cell? ⟨g1, i * 10 + 2, none⟩ = some (.int .i64 x.err) := c1 _ _ ((toldFlat_get hx (j := 2) (by omega)).trans rfl)
      have ac22 : w.cell? ⟨g2, i * 10 + 2, none⟩ = some (.int .i64 x.err) := c2 _ _ ((toldFlat_get hx (j := 2) (by omega)).trans rfl)
      have ac13 : w.cell? ⟨g1, i * 10 + 3, none⟩ = some (.bool x.pan) := c1 _ _ ((toldFlat_get hx (j := 3) (by omega)).trans rfl)
      have ac23 : w.cell? ⟨g2, i * 10 + 3, none⟩ = some (.bool x.pan) := c2 _ _ ((toldFlat_get hx (j := 3) (by omega)).trans rfl)
      have ac14 : w.cell? ⟨g1, i * 10 + 4, none⟩ = some (.int .u32 x.cnt.r) := c1 _ _ ((toldFlat_get hx (j := 4) (by omega)).trans rfl)
      have ac24 : w.cell? ⟨g2, i * 10 + 4, none⟩ = some (.int .u32 x.cnt.r) := c2 _ _ ((toldFlat_get hx (j := 4) (by omega)).trans rfl)
      have ac15 : w.cell? ⟨g1, i * 10 + 5, none⟩ = some (.int .u32 x.cnt.s) := c1 _ _ ((toldFlat_get hx (j := 5) (by omega)).trans rfl)
      have ac25 : w.cell? ⟨g2, i * 10 + 5, none⟩ = some (.int .u32 x.cnt.s) := c2 _ _ ((toldFlat_get hx (j := 5) (by omega)).trans rfl)
      have ac16 : w.cell? ⟨g1, i * 10 + 6, none⟩ = some (.int .u32 x.cnt.f) := c1 _ _ ((toldFlat_get hx (j := 6) (by omega)).trans rfl)
      have ac26 : w.cell? ⟨g2, i * 10 + 6, none⟩ = some (.int .u32 x.cnt.f) := c2 _ _ ((toldFlat_get hx (j := 6) (by omega)).trans rfl)
      have ac17 : w.cell? ⟨g1, i * 10 + 7, none⟩ = some (.int .u32 x.cnt.x) := c1 _ _ ((toldFlat_get hx (j := 7) (by omega)).trans rfl)
      have ac27 : w.cell? ⟨g2, i * 10 + 7, none⟩ = some (.int .u32 x.cnt.x) := c2 _ _ ((toldFlat_get hx (j := 7) (by omega)).trans rfl)
      have ac18 : w.cell? ⟨g1, i * 10 + 8, none⟩ = some (.int .u32 x.cnt.g) := c1 _ _ ((toldFlat_get hx (j := 8) (by omega)).trans rfl)
      have ac28 : w.cell? ⟨g2, i * 10 + 8, none⟩ = some (.int .u32 x.cnt.g) := c2 _ _ ((toldFlat_get hx (j := 8) (by omega)).trans rfl)
      have ac19 : w.cell? ⟨g1, i * 10 + 9, none⟩ = some (.int .u32 x.cnt.h) := c1 _ _ ((toldFlat_get hx (j := 9) (by omega)).trans rfl)
      have ac29 : w.cell? ⟨g2, i * 10 + 9, none⟩ = some (.int .u32 x.cnt.h) := c2 _ _ ((toldFlat_get hx (j := 9) (by omega)).trans rfl)
      clear c1 c2 hx
      go_upto_region 6 with fail
      go_region
      go_wp2_with fail
      go_roundg (l.length - (i + 1))
      case measure => omega
      case rel => exact ⟨i + 1, rfl, hin, by first | rfl | simp, n + 1, rfl⟩
    · have hiz : ¬ ((i : Int) < (l.length : Int)) := by omega
      go_wp2_with fail
      go_ret
      exact ⟨rfl, below_drewN n⟩

end Go.Proofs.Ytcjklacfoldaoaa
