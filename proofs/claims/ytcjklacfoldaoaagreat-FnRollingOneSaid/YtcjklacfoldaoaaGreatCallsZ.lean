import Derived.Deep.RegionHeld3
import Derived.Deep.CutBlock
import Derived.Deep.AppendLies
import Derived.Deep.LoopGhost
import Derived.Deep.DeepCutAuto
import Derived.Test.YtcjklacfoldaoaaGreatPlayZ
import Derived.Test.YtcjklacfoldaoaaGreatSpecZ
/- The statements' Calls as plain data, and what lies where in its rounds. No condition. -/
namespace Go.Proofs.YtcjklacfoldaoaaGreat
open Go.RowKit

structure SC where
  s : SB
  now : Int
  out : List Told
namespace SC
def start (r : Rules) (now : Int) : SC := ⟨SB.new r now, now, []⟩
def look (r : Rules) (p : SC) (k : Call) : SB := p.s.look r (p.now + k.wait)
def went (r : Rules) (p : SC) (k : Call) : SB := ((p.look r k).allow1 r).done r (p.now + k.wait + k.long) ((p.look r k).allow1 r).cleared (execErr k)
def sb (r : Rules) (p : SC) (k : Call) : SB := if (p.look r k).allowCode r = 0 then p.went r k else (p.look r k).allow1 r
def now' (r : Rules) (p : SC) (k : Call) : Int := if (p.look r k).allowCode r = 0 then p.now + k.wait + k.long else p.now + k.wait
def told (r : Rules) (p : SC) (k : Call) : Told := if (p.look r k).allowCode r = 0 then (if k.pan then ⟨true, 0, 0, true, Cnt.zero⟩ else ⟨true, k.val, k.err, false, Cnt.zero⟩) else ⟨false, 0, -(p.look r k).allowCode r, false, Cnt.zero⟩
def step (r : Rules) (p : SC) (k : Call) : SC := ⟨p.sb r k, p.now' r k, p.out ++ [{ p.told r k with cnt := (p.sb r k).cnt }]⟩
def run (r : Rules) (p : SC) (l : List Call) : SC := l.foldl (step r) p
def fin (r : Rules) (p : SC) : SB := p.s.look r p.now
theorem run_drop (r : Rules) (p : SC) {l : List Call} {i : Nat} {a : Call} (h : l[i]? = some a) : run r p (l.drop i) = run r (p.step r a) (l.drop (i + 1)) := by
  have hi : i < l.length := by
    rcases Nat.lt_or_ge i l.length with h' | h'
    · exact h'
    · rw [List.getElem?_eq_none h'] at h; cases h
  rw [List.drop_eq_getElem_cons hi]
  rw [List.getElem?_eq_getElem hi] at h
  simp at h
  rw [h]; rfl
theorem sb_three {r : Rules} {p : SC} (h : p.s.Three) (k : Call) : (p.sb r k).Three := by
  unfold sb went look
  have h1 := SPlay.allow_three (h.look r (p.now + k.wait)) r
  split
  · exact h1.done r _ _ _
  · exact h1
theorem sb_chs (r : Rules) (p : SC) (k : Call) : (p.sb r k).chs.length ≤ p.s.chs.length + 3 := by
  have h1 := SB.look_chs p.s r (p.now + k.wait)
  have h2 : ((p.s.look r (p.now + k.wait)).allow1 r).chs.length = (p.s.look r (p.now + k.wait)).chs.length := by unfold SB.allow1; split <;> rfl
  unfold sb went look
  split
  · have := SB.done_chs ((p.s.look r (p.now + k.wait)).allow1 r) r (p.now + k.wait + k.long) ((p.s.look r (p.now + k.wait)).allow1 r).cleared (execErr k)
    omega
  · omega
end SC
def callOk (k : Call) : Bool := isWait k.wait && (isWait k.long && isError k.err)
def areCalls (r : Rules) (start : Int) (l : List Call) : Bool := areRules r && (isTime start && (decide (l.length ≤ 1000) && (l.all callOk && !((SC.run r (SC.start r start) l).fin r).opn)))
theorem callOk_parts {k : Call} (h : callOk k = true) : 0 ≤ k.wait ∧ k.wait ≤ 1000000000000000 ∧ 0 ≤ k.long ∧ k.long ≤ 1000000000000000 ∧ 0 ≤ k.err ∧ k.err ≤ 6 := by
  unfold callOk isWait isError at h
  simp at h
  obtain ⟨⟨h1, h2⟩, ⟨h3, h4⟩, h5, h6⟩ := h
  exact ⟨h1, h2, h3, h4, h5, by omega⟩
theorem calls_get {l : List Call} (h : l.all callOk = true) {i : Nat} {a : Call} (hi : l[i]? = some a) : callOk a = true := by
  rw [List.all_eq_true] at h
  exact h a (List.mem_of_getElem? hi)
theorem execErr_in {k : Call} (h0 : 0 ≤ k.err) (h1 : k.err ≤ 6) : 0 ≤ execErr k ∧ execErr k ≤ 7 := by unfold execErr; split <;> omega

/-- Where everything lies ahead of a round. -/
structure KSt (w0 : World) (b : Nat) (r : Rules) (wx : World) (q : SC) (cr : Nat) (ov : Value) : Prop where
  sb : SBat wx b cr r q.s
  ot : wx.ownsRow w0.heap.size 40 10 ov q.out.length (toldFlat q.out)
  os : ∀ g, ov.ownBlock = some g → g ≠ b ∧ g ≠ cr
  b0 : w0.heap.size ≤ b
  c0 : w0.heap.size ≤ cr
  bel : Below w0.heap.size w0 wx
section
variable {w0 wx wy : World} {b cr : Nat} {r : Rules} {q : SC} {ov : Value}
theorem KSt.go (h : KSt w0 b r wx q cr ov) {s' : SB} {cr' : Nat} (s : SBat wy b cr' r s') (k : cr' = cr ∨ wx.heap.size ≤ cr') (m : Mod [b, cr] wx wy) : KSt w0 b r wy { q with s := s' } cr' ov := by
  have hz := h.bel.size
  have c0 := h.c0
  refine ⟨s, owns_keep h.ot fun g hg => m.block g (h.ot.lt g hg).2 (by simpa using h.os g hg), SSt.next_ne h.os (fun g hg => (h.ot.lt g hg).2) k, h.b0, ?_, h.bel.trans (m.below_of hz ?_)⟩
  · rcases k with k | k <;> omega
  · have := h.b0
    intro i hi
    simp at hi
    omega
theorem KSt.below (h : KSt w0 b r wx q cr ov) (bb : Below wx.heap.size wx wy) : KSt w0 b r wy q cr ov := by
  have m : Mod [] wx wy := Mod.of_below bb
  exact ⟨h.sb.keep m (by simp) (by simp), owns_keep h.ot fun g hg => m.block g (h.ot.lt g hg).2 (by simp), h.os, h.b0, h.c0, h.bel.trans (bb.mono h.bel.size)⟩
theorem KSt.alloc (h : KSt w0 b r wx q cr ov) (o : Obj) : KSt w0 b r (wx.alloc o) q cr ov := h.below ((Below.refl _ _).alloc (Nat.le_refl _) _)
theorem KSt.drew (h : KSt w0 b r wx q cr ov) : KSt w0 b r wx.drew q cr ov := h.below (Below.refl _ _).drew
theorem KSt.set (h : KSt w0 b r wx q cr ov) {g : Nat} (hb : g ≠ b) (hc : g ≠ cr) (ho : ov.ownBlock ≠ some g) (h0 : w0.heap.size ≤ g) (m : Mod [g] wx wy) : KSt w0 b r wy q cr ov :=
  ⟨h.sb.keep m (by simpa using hb.symm) (by simpa using hc.symm), owns_keep h.ot fun k hk => m.block k (h.ot.lt k hk).2 (by simp; rintro rfl; exact ho hk), h.os, h.b0, h.c0, h.bel.trans (m.below_of h.bel.size (by simpa using h0))⟩
theorem KSt.cast (h : KSt w0 b r wx q cr ov) {q' : SC} (e1 : q'.s = q.s) (e4 : q'.out = q.out) : KSt w0 b r wx q' cr ov := ⟨by rw [e1]; exact h.sb, by rw [e4]; exact h.ot, h.os, h.b0, h.c0, h.bel⟩
theorem KSt.pushOut (h : KSt w0 b r wx q cr ov) {x : Told} {g cap : Nat} (hown : wy.ownsRow w0.heap.size 40 10 (.slice (some ⟨g, 0, none⟩) (q.out.length + 1) cap) (q.out.length + 1) (toldFlat q.out ++ toldRow x)) (hgrow : wx.grownBy wy ov.ownBlock) (hat : ov.ownBlock = some g ∨ g = wx.heap.size) :
    KSt w0 b r wy { q with out := q.out ++ [x] } cr (.slice (some ⟨g, 0, none⟩) (q.out.length + 1) cap) := by
  have key : SBat wy b cr r q.s ∧ Below w0.heap.size w0 wy := by
    cases hrow : ov.ownBlock with
    | none =>
      rw [hrow] at hgrow
      have bb : Below wx.heap.size wx wy := ⟨hgrow.os, hgrow.tape, hgrow.output, hgrow.size, fun k hk => hgrow.block k hk (by simp)⟩
      exact ⟨(h.below bb).sb, (h.below bb).bel⟩
    | some k =>
      rw [hrow] at hgrow
      obtain ⟨a, c⟩ := h.os k hrow
      have m : Mod [k] wx wy := Mod.of_grown hgrow (by intro j hj; simp at hj; simp [hj])
      exact ⟨h.sb.keep m (by simpa using a.symm) (by simpa using c.symm), h.bel.trans (m.below_of h.bel.size (by simpa using (h.ot.lt k hrow).1))⟩
  refine ⟨key.1, by rw [toldFlat_snoc, List.length_append]; exact hown, ?_, h.b0, h.c0, key.2⟩
  intro k hk
  simp [Value.ownBlock] at hk
  subst hk
  have h1 := h.sb.blt
  have h2 := h.sb.crlt
  rcases hat with e | e
  · exact h.os _ e
  · omega
end

end Go.Proofs.YtcjklacfoldaoaaGreat

/- Contracts of SameChanges and SameTold: the same rows are the same. Condition: both rows hold the same. -/
namespace Go.Proofs.YtcjklacfoldaoaaGreat
open Go.RowKit
attribute [local go_sem ↓] Go.wp_at_zero Go.wp_at_succ

theorem chFlat_get {l : List (Int × Int)} {i : Nat} {x : Int × Int} (h : l[i]? = some x) : (chFlat l)[i * 2]? = some (.int .i64 x.1) ∧ (chFlat l)[i * 2 + 1]? = some (.int .i64 x.2) := by
  induction l generalizing i with
  | nil => simp at h
  | cons a l ih =>
    cases i with
    | zero => simp at h; subst h; simp [chFlat]
    | succ i =>
      obtain ⟨p, q⟩ := ih (i := i) (by simpa using h)
      have e : (i + 1) * 2 = [Value.int IntKind.i64 a.1, .int .i64 a.2].length + i * 2 := by simp; omega
      have e' : (i + 1) * 2 + 1 = [Value.int IntKind.i64 a.1, .int .i64 a.2].length + (i * 2 + 1) := by simp; omega
      simp only [chFlat, List.flatMap_cons]
      rw [e', e, List.getElem?_append_right (by omega), List.getElem?_append_right (by omega)]
      constructor
      · simpa [chFlat] using p
      · simpa [chFlat] using q
theorem toldFlat_get {l : List Told} {i : Nat} {x : Told} (h : l[i]? = some x) {j : Nat} (hj : j < 10) : (toldFlat l)[i * 10 + j]? = (toldRow x)[j]? := by
  induction l generalizing i with
  | nil => simp at h
  | cons a l ih =>
    cases i with
    | zero =>
      simp at h
      subst h
      simp only [toldFlat, List.flatMap_cons, Nat.zero_mul, Nat.zero_add]
      rw [List.getElem?_append_left (by simpa [toldRow] using hj)]
    | succ i =>
      have e : (i + 1) * 10 + j = (toldRow a).length + (i * 10 + j) := by simp [toldRow]; omega
      simp only [toldFlat, List.flatMap_cons]
      rw [e, List.getElem?_append_right (by omega)]
      have := ih (i := i) (by simpa using h)
      simpa [toldFlat] using this

theorem below_drewN {B : Nat} {w : World} (n : Nat) : Below B w (w.drewN n) := ⟨rfl, rfl, rfl, Nat.le_refl _, fun _ _ => rfl⟩
theorem row_part {w : World} {base : Nat} {e : TypeId} {size n : Nat} {p : Option Addr} {cap : Nat} {xs : List Value} (h : w.ownsRow base e size (.slice p n cap) n xs) (hn : n ≠ 0) : ∃ g, p = some ⟨g, 0, none⟩ ∧ ∀ (j : Nat) (u : Value), xs[j]? = some u → w.cell? ⟨g, j, none⟩ = some u := by
  obtain ⟨g, c, cs, he, _, _, _, hc⟩ := row_slice h hn
  cases he
  exact ⟨g, rfl, hc⟩

set_option maxRecDepth 100000 in
set_option maxHeartbeats 2000000 in
theorem sameChanges_any (va vb : Value) (l : List (Int × Int)) (w : World) (ba bb : Nat) (h1 : w.ownsRow ba 85 2 va l.length (chFlat l)) (h2 : w.ownsRow bb 85 2 vb l.length (chFlat l)) (hl : l.length ≤ 1000000) :
    Calls Tryz.prog 14 #[va, vb] w fun e w' => e = .returned (.bool true) ∧ Below w.heap.size w w' := by
  obtain ⟨pa, ca, rfl⟩ := row_len h1
  obtain ⟨pb, cb, rfl⟩ := row_len h2
  have H1 := Lib.hid h1
  have H2 := Lib.hid h2
  clear h1 h2
  go_enter Tryz.func14, Tryz.ntmps14
  go_wp2_with fail
  go_loopg [13] l.length (fun g s13 wx => ∃ i : Nat, g = l.length - i ∧ i ≤ l.length ∧ s13 = .int .i64 (i : Int) ∧ ∃ n, wx = w.drewN n)
  case atStart => exact ⟨0, rfl, Nat.zero_le _, rfl, 0, rfl⟩
  case round =>
    obtain ⟨i, rfl, hi, rfl, n, rfl⟩ := hrel
    by_cases hin : i < l.length
    · have hiz : (i : Int) < (l.length : Int) := by omega
      obtain ⟨x, hx⟩ : ∃ x, l[i]? = some x := ⟨_, List.getElem?_eq_getElem hin⟩
      obtain ⟨g1, rfl, c1⟩ := row_part H1.out (by omega)
      obtain ⟨g2, rfl, c2⟩ := row_part H2.out (by omega)
      obtain ⟨p, q⟩ := chFlat_get hx
      have a1 := c1 _ _ p
      have a2 := c1 _ _ q
      have a3 := c2 _ _ p
      have a4 := c2 _ _ q
      clear c1 c2 p q hx
      go_upto_region 6 with fail
      go_region
      go_wp2_with fail
      go_roundg (l.length - (i + 1))
      case measure => omega
      case rel => exact ⟨i + 1, rfl, hin, by first | rfl | simp, n + 1, rfl⟩
    · have hiz : ¬ ((i : Int) < (l.length : Int)) := by omega
      go_wp2_with fail
      go_ret
      exact ⟨rfl, below_drewN n⟩

set_option maxRecDepth 100000 in
set_option maxHeartbeats 2000000 in
theorem sameTold_any (va vb : Value) (l : List Told) (w : World) (ba bb : Nat) (h1 : w.ownsRow ba 40 10 va l.length (toldFlat l)) (h2 : w.ownsRow bb 40 10 vb l.length (toldFlat l)) (hl : l.length ≤ 1000000) :
    Calls Tryz.prog 13 #[va, vb] w fun e w' => e = .returned (.bool true) ∧ Below w.heap.size w w' := by
  obtain ⟨pa, ca, rfl⟩ := row_len h1
  obtain ⟨pb, cb, rfl⟩ := row_len h2
  have H1 := Lib.hid h1
  have H2 := Lib.hid h2
  clear h1 h2
  go_enter Tryz.func13, Tryz.ntmps13
  go_wp2_with fail
  go_loopg [13] l.length (fun g s13 wx => ∃ i : Nat, g = l.length - i ∧ i ≤ l.length ∧ s13 = .int .i64 (i : Int) ∧ ∃ n, wx = w.drewN n)
  case atStart => exact ⟨0, rfl, Nat.zero_le _, rfl, 0, rfl⟩
  case round =>
    obtain ⟨i, rfl, hi, rfl, n, rfl⟩ := hrel
    by_cases hin : i < l.length
    · have hiz : (i : Int) < (l.length : Int) := by omega
      obtain ⟨x, hx⟩ : ∃ x, l[i]? = some x := ⟨_, List.getElem?_eq_getElem hin⟩
      obtain ⟨g1, rfl, c1⟩ := row_part H1.out (by omega)
      obtain ⟨g2, rfl, c2⟩ := row_part H2.out (by omega)
      have ac10 : w.cell? ⟨g1, i * 10, none⟩ = some (.bool x.ran) := c1 _ _ ((toldFlat_get hx (j := 0) (by omega)).trans rfl)
      have ac20 : w.cell? ⟨g2, i * 10, none⟩ = some (.bool x.ran) := c2 _ _ ((toldFlat_get hx (j := 0) (by omega)).trans rfl)
      have ac11 : w.cell? ⟨g1, i * 10 + 1, none⟩ = some (.int .i64 x.val) := c1 _ _ ((toldFlat_get hx (j := 1) (by omega)).trans rfl)
      have ac21 : w.cell? ⟨g2, i * 10 + 1, none⟩ = some (.int .i64 x.val) := c2 _ _ ((toldFlat_get hx (j := 1) (by omega)).trans rfl)
      have ac12 : w.cell? ⟨g1, i * 10 + 2, none⟩ = some (.int .i64 x.err) := c1 _ _ ((toldFlat_get hx (j := 2) (by omega)).trans rfl)
      have ac22 : w.cell? ⟨g2, i * 10 + 2, none⟩ = some (.int .i64 x.err) := c2 _ _ ((toldFlat_get hx (j := 2) (by omega)).trans rfl)
      have ac13 : w.cell? ⟨g1, i * 10 + 3, none⟩ = some (.bool x.pan) := c1 _ _ ((toldFlat_get hx (j := 3) (by omega)).trans rfl)
      have ac23 : w.cell? ⟨g2, i * 10 + 3, none⟩ = some (.bool x.pan) := c2 _ _ ((toldFlat_get hx (j := 3) (by omega)).trans rfl)
      have ac14 : w.cell? ⟨g1, i * 10 + 4, none⟩ = some (.int .u32 x.cnt.r) := c1 _ _ ((toldFlat_get hx (j := 4) (by omega)).trans rfl)
      have ac24 : w.cell? ⟨g2, i * 10 + 4, none⟩ = some (.int .u32 x.cnt.r) := c2 _ _ ((toldFlat_get hx (j := 4) (by omega)).trans rfl)
      have ac15 : w.cell? ⟨g1, i * 10 + 5, none⟩ = some (.int .u32 x.cnt.s) := c1 _ _ ((toldFlat_get hx (j := 5) (by omega)).trans rfl)
      have ac25 : w.cell? ⟨g2, i * 10 + 5, none⟩ = some (.int .u32 x.cnt.s) := c2 _ _ ((toldFlat_get hx (j := 5) (by omega)).trans rfl)
      have ac16 : w.cell? ⟨g1, i * 10 + 6, none⟩ = some (.int .u32 x.cnt.f) := c1 _ _ ((toldFlat_get hx (j := 6) (by omega)).trans rfl)
      have ac26 : w.cell? ⟨g2, i * 10 + 6, none⟩ = some (.int .u32 x.cnt.f) := c2 _ _ ((toldFlat_get hx (j := 6) (by omega)).trans rfl)
      have ac17 : w.cell? ⟨g1, i * 10 + 7, none⟩ = some (.int .u32 x.cnt.x) := c1 _ _ ((toldFlat_get hx (j := 7) (by omega)).trans rfl)
      have ac27 : w.cell? ⟨g2, i * 10 + 7, none⟩ = some (.int .u32 x.cnt.x) := c2 _ _ ((toldFlat_get hx (j := 7) (by omega)).trans rfl)
      have ac18 : w.cell? ⟨g1, i * 10 + 8, none⟩ = some (.int .u32 x.cnt.g) := c1 _ _ ((toldFlat_get hx (j := 8) (by omega)).trans rfl)
      have ac28 : w.cell? ⟨g2, i * 10 + 8, none⟩ = some (.int .u32 x.cnt.g) := c2 _ _ ((toldFlat_get hx (j := 8) (by omega)).trans rfl)
      have ac19 : w.cell? ⟨g1, i * 10 + 9, none⟩ = some (.int .u32 x.cnt.h) := c1 _ _ ((toldFlat_get hx (j := 9) (by omega)).trans rfl)
      have ac29 : w.cell? ⟨g2, i * 10 + 9, none⟩ = some (.int .u32 x.cnt.h) := c2 _ _ ((toldFlat_get hx (j := 9) (by omega)).trans rfl)
      clear c1 c2 hx
      go_upto_region 6 with fail
      go_region
      go_wp2_with fail
      go_roundg (l.length - (i + 1))
      case measure => omega
      case rel => exact ⟨i + 1, rfl, hin, by first | rfl | simp, n + 1, rfl⟩
    · have hiz : ¬ ((i : Int) < (l.length : Int)) := by omega
      go_wp2_with fail
      go_ret
      exact ⟨rfl, below_drewN n⟩

end Go.Proofs.YtcjklacfoldaoaaGreat

/- PlayCalls and the statements' Calls do the same. Conditions: the rules and the calls are within the bounds, and nothing comes at the very end of a time. -/
namespace Go.Proofs.YtcjklacfoldaoaaGreat
open Go.RowKit

structure QRel (r : Rules) (n : Nat) (p : PC) (q : SC) : Prop where
  c : CRel r p.c q.s
  now : p.now = q.now
  chs : p.chs = q.s.chs
  out : p.out = q.out
  few : q.s.cleared ≤ 3 * n
  fresh : Fresh q.s q.now
  now0 : -1000000000000000 ≤ q.now
  now1 : q.now ≤ 1000000000000000 + 2000000000000000 * n

theorem QRel.start {r : Rules} (m : r.Mild) {now : Int} (n0 : -1000000000000000 ≤ now) (n1 : now ≤ 1000000000000000) : QRel r 0 (PC.start r now) (SC.start r now) := by
  obtain ⟨h, _⟩ := PRel.start m n0 n1
  exact ⟨h.c, rfl, rfl, rfl, by show (0 : Int) ≤ _; omega, fresh_clear (s := SB.zero), n0, by simpa [SC.start] using n1⟩

theorem sb_opn {r : Rules} {q : SC} {k : Call} (h : (q.sb r k).opn = false) : (q.look r k).opn = false := by
  have ha : ((q.look r k).allow1 r).opn = (q.look r k).opn := by unfold SB.allow1; split <;> rfl
  unfold SC.sb SC.went at h
  split at h
  · have h1 : ((q.look r k).allow1 r).opn = false := by
      unfold SB.done at h
      split at h
      · exact look_opn0 h
      · exact look_opn0 (done1_opn h).1
    rw [ha] at h1; exact h1
  · rw [ha] at h; exact h
theorem crun_opn {r : Rules} {l : List Call} {q : SC} (h : (SC.run r q l).s.opn = false) : q.s.opn = false := by
  induction l generalizing q with
  | nil => exact h
  | cons k l ih => exact look_opn0 (sb_opn (ih (q := q.step r k) h))

theorem QRel.step {r : Rules} {n : Nat} {p : PC} {q : SC} {k : Call} (m : r.Mild) (h : QRel r n p q) (hn : n ≤ 1100) (hk : callOk k = true) (ho : (q.sb r k).opn = false) : p.Can k ∧ QRel r (n + 1) (p.step r k) (q.step r k) := by
  obtain ⟨w0, w1, l0, l1, e0, e1⟩ := callOk_parts hk
  have hf := h.few
  have hnow := h.now
  have b0 := h.now0
  have b1 := h.now1
  have hol := sb_opn ho
  refine ⟨⟨w0, l0, by omega, by omega, e0, e1⟩, ?_⟩
  obtain ⟨x1, x2, x3, x4, x5⟩ := h.c.look m (by omega) (now := q.now + k.wait) (by omega) (by omega) hol
  obtain ⟨y1, y2⟩ := x1.allow m
  have hfl : Fresh (q.s.look r (q.now + k.wait)) (q.now + k.wait) := fresh_look hol
  have fa := fresh_allow (r := r) hfl
  have f1 : ((q.s.look r (q.now + k.wait)).allow1 r).chs = (q.s.look r (q.now + k.wait)).chs := by unfold SB.allow1; split <;> rfl
  have f2 : ((q.s.look r (q.now + k.wait)).allow1 r).cleared = (q.s.look r (q.now + k.wait)).cleared := by unfold SB.allow1; split <;> rfl
  have f3 : ((q.s.look r (q.now + k.wait)).allow1 r).state = (q.s.look r (q.now + k.wait)).state := by unfold SB.allow1; split <;> rfl
  by_cases hc : (q.s.look r (q.now + k.wait)).allowCode r = 0
  · have hs : (q.s.look r (q.now + k.wait)).state ≠ 2 := by
      intro x; unfold SB.allowCode at hc; rw [if_pos x] at hc; omega
    have esb : q.sb r k = q.went r k := by unfold SC.sb; rw [if_pos (show (q.look r k).allowCode r = 0 from hc)]
    have enow : q.now' r k = q.now + k.wait + k.long := by unfold SC.now'; rw [if_pos (show (q.look r k).allowCode r = 0 from hc)]
    have etold : q.told r k = (if k.pan then ⟨true, 0, 0, true, Cnt.zero⟩ else ⟨true, k.val, k.err, false, Cnt.zero⟩) := by unfold SC.told; rw [if_pos (show (q.look r k).allowCode r = 0 from hc)]
    rw [esb] at ho
    obtain ⟨z1, z2, z3, z4, z5⟩ := y1.done (e := execErr k) (g := ((q.s.look r (q.now + k.wait)).allow1 r).cleared) m (by rw [f2]; omega) (now := q.now + k.wait + k.long) (by omega) (by omega) (Int.le_refl _) (fun x => by rw [f3] at x; exact absurd x hs) ho
    have hgen : (p.c.look (q.now + k.wait)).gen = 1 + ((q.s.look r (q.now + k.wait)).allow1 r).cleared := by rw [f2]; exact x1.gen
    have ec : execC r p.c (p.now + k.wait) k = (p.c.look (q.now + k.wait)).before1.after r (1 + ((q.s.look r (q.now + k.wait)).allow1 r).cleared) 0 (execErr k) (q.now + k.wait + k.long) := by
      unfold execC; rw [hnow, if_pos (by rw [y2]; exact hc), hgen, x1.age]
    have en : execNow p.c (p.now + k.wait) k = q.now + k.wait + k.long := by unfold execNow; rw [hnow, if_pos (by rw [y2]; exact hc)]
    have eh : execChs r p.c (p.now + k.wait) k = p.c.lookTold (q.now + k.wait) ++ (p.c.look (q.now + k.wait)).before1.afterTold r (1 + ((q.s.look r (q.now + k.wait)).allow1 r).cleared) 0 (execErr k) (q.now + k.wait + k.long) := by
      unfold execChs; rw [hnow, if_pos (by rw [y2]; exact hc), hgen, x1.age]
    have et : execTold p.c (p.now + k.wait) k = (if k.pan then ⟨true, 0, 0, true, Cnt.zero⟩ else ⟨true, k.val, k.err, false, Cnt.zero⟩) := by unfold execTold; rw [hnow, if_pos (by rw [y2]; exact hc)]
    unfold PC.step SC.step
    rw [ec, en, eh, et, esb, enow, etold]
    refine ⟨z1, rfl, ?_, ?_, ?_, fresh_done ho, ?_, ?_⟩
    · show p.chs ++ _ = (q.went r k).chs
      unfold SC.went SC.look
      rw [z2, f1, x2, h.chs, List.append_assoc]
    · show p.out ++ [_] = q.out ++ [_]
      rw [h.out, z1.cnt]
      rfl
    · show (q.went r k).cleared ≤ _
      unfold SC.went SC.look
      omega
    · dsimp only; omega
    · dsimp only; omega
  · have esb : q.sb r k = (q.s.look r (q.now + k.wait)).allow1 r := by unfold SC.sb; rw [if_neg (show ¬ (q.look r k).allowCode r = 0 from hc)]; rfl
    have enow : q.now' r k = q.now + k.wait := by unfold SC.now'; rw [if_neg (show ¬ (q.look r k).allowCode r = 0 from hc)]
    have etold : q.told r k = ⟨false, 0, -(q.s.look r (q.now + k.wait)).allowCode r, false, Cnt.zero⟩ := by unfold SC.told; rw [if_neg (show ¬ (q.look r k).allowCode r = 0 from hc)]; rfl
    have ec : execC r p.c (p.now + k.wait) k = (p.c.look (q.now + k.wait)).before1 := by unfold execC; rw [hnow, if_neg (by rw [y2]; exact hc)]
    have en : execNow p.c (p.now + k.wait) k = q.now + k.wait := by unfold execNow; rw [hnow, if_neg (by rw [y2]; exact hc)]
    have eh : execChs r p.c (p.now + k.wait) k = p.c.lookTold (q.now + k.wait) := by unfold execChs; rw [hnow, if_neg (by rw [y2]; exact hc), List.append_nil]
    have et : execTold p.c (p.now + k.wait) k = ⟨false, 0, -(q.s.look r (q.now + k.wait)).allowCode r, false, Cnt.zero⟩ := by unfold execTold; rw [hnow, if_neg (by rw [y2]; exact hc), y2]
    unfold PC.step SC.step
    rw [ec, en, eh, et, esb, enow, etold]
    refine ⟨y1, rfl, ?_, ?_, ?_, fa, ?_, ?_⟩
    · show p.chs ++ _ = _
      rw [f1, x2, h.chs]
    · show p.out ++ [_] = q.out ++ [_]
      rw [h.out, y1.cnt]
    · dsimp only; rw [f2]; omega
    · dsimp only; omega
    · dsimp only; omega

theorem QRel.run {r : Rules} (m : r.Mild) (l : List Call) {n : Nat} {p : PC} {q : SC} (h : QRel r n p q) (hn : n + l.length ≤ 1100) (ha : l.all callOk = true) (ho : (SC.run r q l).s.opn = false) : PC.Fine r p l ∧ QRel r (n + l.length) (PC.run r p l) (SC.run r q l) := by
  induction l generalizing n p q with
  | nil => exact ⟨trivial, h⟩
  | cons k l ih =>
    simp at ha hn
    have ho' : (SC.run r (q.step r k) l).s.opn = false := ho
    obtain ⟨x, y⟩ := h.step m (by omega) ha.1 (crun_opn ho')
    obtain ⟨z1, z2⟩ := ih y (by omega) (by simpa using ha.2) ho'
    exact ⟨⟨x, z1⟩, by rw [List.length_cons, show n + (l.length + 1) = n + 1 + l.length by omega]; exact z2⟩

theorem QRel.idle {r : Rules} {n : Nat} {p : PC} {q : SC} (h : QRel r n p q) : p.c.Idle p.now := by
  have hx := h.c.exp
  have hs := h.c.st
  rcases h.c.three with s | s | s
  · refine .inl ⟨by rw [hs]; exact s, ?_, by rw [h.c.len]; decide⟩
    by_cases ht : q.s.timed = true
    · rw [if_pos ht] at hx
      have := h.fresh ht
      exact .inr (by rw [h.now]; omega)
    · rw [if_neg ht] at hx; exact .inl hx
  · exact .inr (.inl (by rw [hs]; exact s))
  · have ht := h.c.tim2 s
    rw [if_pos ht] at hx
    have := h.fresh ht
    exact .inr (.inr ⟨by rw [hs]; exact s, by rw [h.now]; omega⟩)

theorem areCalls_parts {r : Rules} {start : Int} {l : List Call} (h : areCalls r start l = true) : areRules r = true ∧ isTime start = true ∧ l.length ≤ 1000 ∧ l.all callOk = true ∧ ((SC.run r (SC.start r start) l).fin r).opn = false := by
  unfold areCalls at h
  simp only [Bool.and_eq_true, decide_eq_true_eq] at h
  obtain ⟨h1, h2, h3, h4, h5⟩ := h
  exact ⟨h1, h2, h3, h4, by simpa using h5⟩

/-- What PlayCalls does within the bounds. -/
structure CSaid (r : Rules) (start : Int) (l : List Call) (q : SC) : Prop where
  run : SC.run r (SC.start r start) l = q
  fin : q.fin r = q.s
  opn : q.s.opn = false
  len : q.out.length = l.length
  short : l.length ≤ 1000
  chs : q.s.chs.length ≤ 4000
  play : ∀ (va : Value) (w : World), CallsAt w va l → Calls Tryz.prog 11 #[rulesV r, .int .i64 start, va] w fun e w' =>
      ∃ vo vc, e = .returned (.tuple #[vo, vc, .int .i64 q.s.state]) ∧ w'.ownsRow w.heap.size 40 10 vo q.out.length (toldFlat q.out) ∧ w'.ownsRow w.heap.size 85 2 vc q.s.chs.length (chFlat q.s.chs) ∧ Below w.heap.size w w'

theorem crun_sizes (r : Rules) (l : List Call) (q : SC) : (SC.run r q l).out.length = q.out.length + l.length ∧ (SC.run r q l).s.chs.length ≤ q.s.chs.length + 3 * l.length := by
  induction l generalizing q with
  | nil => exact ⟨rfl, by simp [SC.run]⟩
  | cons k l ih =>
    obtain ⟨x, y⟩ := ih (q.step r k)
    have h1 := SC.sb_chs r q k
    have e1 : (q.step r k).out.length = q.out.length + 1 := by simp [SC.step]
    have e2 : (q.step r k).s.chs.length ≤ q.s.chs.length + 3 := h1
    rw [List.length_cons]
    constructor
    · show (SC.run r (q.step r k) l).out.length = _
      omega
    · show (SC.run r (q.step r k) l).s.chs.length ≤ _
      omega

end Go.Proofs.YtcjklacfoldaoaaGreat

/- Contract of the statements' Calls. Conditions: the rules and the calls are within the bounds. -/
namespace Go.Proofs.YtcjklacfoldaoaaGreat
open Go.RowKit
attribute [local go_sem ↓] Go.wp_at_zero Go.wp_at_succ

theorem results_tmp4 {fn : Func} {t u v x : Tmp} (h : fn.results = #[.tmp t, .tmp u, .tmp v, .tmp x]) (tmps : Array Value) (P : Program) (w : World) :
    (results fn tmps).run P w = .ok (.tuple #[tmps.getD t undef, tmps.getD u undef, tmps.getD v undef, tmps.getD x undef]) w := by
  simp [results, h]

set_option maxRecDepth 100000 in
set_option maxHeartbeats 4000000 in
theorem calls_any (r : Rules) (start : Int) (va : Value) (l : List Call) (w : World) (mild : r.Mild) (rok : r.Ok) (t0 : -1000000000000000 ≤ start) (t1 : start ≤ 1000000000000000)
    (ha : CallsAt w va l) (hl : l.length ≤ 1000) (hok : l.all callOk = true) :
    Calls Tryz.prog 12 #[rulesV r, .int .i64 start, va] w fun e w' =>
      ∃ vo vc, e = .returned (.tuple #[vo, vc, .int .i64 ((SC.run r (SC.start r start) l).fin r).state, .bool (!((SC.run r (SC.start r start) l).fin r).opn)]) ∧ Below w.heap.size w w' ∧
        w'.ownsRow w.heap.size 40 10 vo (SC.run r (SC.start r start) l).out.length (toldFlat (SC.run r (SC.start r start) l).out) ∧ w'.ownsRow w.heap.size 85 2 vc ((SC.run r (SC.start r start) l).fin r).chs.length (chFlat ((SC.run r (SC.start r start) l).fin r).chs) := by
  obtain ⟨pa, cap, rfl, hacts⟩ := ha
  have HA := Lib.hid hacts
  have HOK := Lib.hid hok
  have MI := Lib.hid mild
  have RO := Lib.hid rok
  clear hacts hok mild rok
  unfold rulesV
  go_enter Tryz.func12, Tryz.ntmps12
  go_wp2_with fail
  have hz : (w.alloc (Obj.cells (rulesArr r) 24)).heap.size = w.heap.size + 1 := by simp
  refine (newSB_any r start (w.alloc (Obj.cells (rulesArr r) 24)) MI.out (by omega) (by omega)).mono ?_
  rintro e w2 ⟨rfl, hb, hB⟩
  rw [hz] at hb hB ⊢
  have S2 := Lib.hid (show KSt w (w.heap.size + 1 + 1) r w2 (SC.start r start) (w.heap.size + 1) (.slice none 0 0) from
    ⟨hb, World.ownsRow_nil _ _ _ _, by simp [Value.ownBlock], by omega, by omega, ((Below.refl _ _).alloc (Nat.le_refl _) _).trans (hB.mono (by omega))⟩)
  obtain ⟨bb, hbb⟩ : ∃ k, k = w.heap.size + 1 + 1 := ⟨_, rfl⟩
  obtain ⟨c0, hc0⟩ : ∃ k, k = w.heap.size + 1 := ⟨_, rfl⟩
  rw [← hbb] at S2
  rw [← hc0] at S2
  rw [← hbb]
  clear hbb hc0 hb hB hz
  go_wp2_with fail
  go_loopg [11, 12, 24] l.length (fun g s11 s12 s24 wx => ∃ (i : Nat) (q : SC) (cr : Nat), g = l.length - i ∧ i ≤ l.length ∧ s24 = .int .i64 (i : Int) ∧ s11 = .int .i64 q.now ∧ Hid (KSt w bb r wx q cr s12 ∧ q.s.Three ∧ SC.run r q (l.drop i) = SC.run r (SC.start r start) l ∧ q.s.chs.length ≤ 3 * i ∧ q.out.length = i ∧ -1000000000000000 ≤ q.now ∧ q.now ≤ 1000000000000000 + 2000000000000000 * i))
  case atStart =>
    exact ⟨0, SC.start r start, c0, rfl, Nat.zero_le _, rfl, rfl, Lib.hid ⟨S2.out, .inl rfl, rfl, by simp [SC.start, SB.new, SB.clear, SB.zero], rfl, by simpa [SC.start] using t0, by simpa [SC.start] using t1⟩⟩
  case round =>
    obtain ⟨i, q, cr, rfl, hi, rfl, rfl, hh⟩ := hrel
    by_cases hin : i < l.length
    · have hiz : (i : Int) < (l.length : Int) := by omega
      obtain ⟨a, hla⟩ : ∃ a, l[i]? = some a := ⟨_, List.getElem?_eq_getElem hin⟩
      obtain ⟨ab, ao, rfl, hblk, hcell⟩ := HA.out i a hla
      have hbc := fun j u hj => (hh.out.1.bel.cell (p := ⟨ab, ao + i * 5 + j, none⟩) hblk).trans (hcell j u hj)
      have k0 : wr.cell? ⟨ab, ao + i * 5, none⟩ = some (.int .i64 a.wait) := hbc 0 _ rfl
      have k1 := hbc 1 _ rfl
      have k2 := hbc 2 _ rfl
      have k3 := hbc 3 _ rfl
      have k4 := hbc 4 _ rfl
      obtain ⟨w0, w1, l0, l1, e0, e1⟩ := callOk_parts (calls_get HOK.out hla)
      have LA := Lib.hid hla
      obtain ⟨hS, h3, hR, b1, b4, n0, n1⟩ := hh.out
      have HR := Lib.hid hR
      have H3 := Lib.hid h3
      have B4 := Lib.hid b4
      have S1 := Lib.hid (hS.alloc (Obj.cells (callArr a) 36))
      have A1 := Lib.hid (heap_alloc_new wr (Obj.cells (callArr a) 36))
      have ne1 := Lib.hid (show wr.heap.size ≠ bb ∧ wr.heap.size ≠ cr from ⟨Nat.ne_of_gt hS.sb.blt, Nat.ne_of_gt hS.sb.crlt⟩)
      unfold callArr at S1 A1
      have n2 : q.now + a.wait + a.long ≤ 3000000000000000000 := by omega
      have n3 : -3000000000000000000 ≤ q.now + a.wait := by omega
      have hch : q.s.chs.length ≤ 100000 := by omega
      clear hbc hcell hla hR h3 b4 hh hS hblk
      go_upto_region 7 with fail
      obtain ⟨ba, hba⟩ : ∃ k, k = wr.heap.size := ⟨_, rfl⟩
      rw [← hba] at A1 ne1
      rw [← hba]
      clear hba k0 k1 k2 k3 k4
      generalize (wr.alloc (Obj.cells #[Value.int IntKind.i64 a.wait, Value.int IntKind.i64 a.long, Value.int IntKind.i64 a.val, Value.int IntKind.i64 a.err, Value.bool a.pan] 36)) = X1 at *
      have a0 := blk_cell A1.out
      have zlt := size_of_heap A1.out
      go_upto_region 9 with fail
      have S2 := Lib.hid (S1.out.alloc (Obj.cells (toldArr Told.zero) 40))
      have A2 := Lib.hid (heap_alloc_lt (o := Obj.cells (toldArr Told.zero) 40) A1.out)
      have X2 := Lib.hid (heap_alloc_new X1 (Obj.cells (toldArr Told.zero) 40))
      have ne2 := Lib.hid (show X1.heap.size ≠ bb ∧ X1.heap.size ≠ cr from ⟨Nat.ne_of_gt S1.out.sb.blt, Nat.ne_of_gt S1.out.sb.crlt⟩)
      have U2 := Lib.hid (show u12.ownBlock ≠ some X1.heap.size from fun h => absurd (S1.out.ot.lt _ h).2 (Nat.lt_irrefl _))
      have W2 := Lib.hid S1.out.bel.size
      obtain ⟨xb, hxb⟩ : ∃ k, k = X1.heap.size := ⟨_, rfl⟩
      rw [← hxb] at X2 ne2 U2 W2
      rw [← hxb]
      clear hxb a0 zlt S1 A1
      unfold toldArr Told.zero Cnt.zero at S2 A2 X2
      dsimp only at S2 A2 X2
      generalize (X1.alloc (Obj.cells #[Value.bool false, Value.int IntKind.i64 0, Value.int IntKind.i64 0, Value.bool false, Value.int IntKind.u32 0, Value.int IntKind.u32 0, Value.int IntKind.u32 0, Value.int IntKind.u32 0, Value.int IntKind.u32 0, Value.int IntKind.u32 0] 40)) = X3 at *
      have a0 := blk_cell A2.out
      have xc := blk_cell X2.out
      have xf := blk_free X2.out
      have zlt := size_of_heap A2.out
      have xlt := size_of_heap X2.out
      have nab : ba ≠ xb := by rintro rfl; have := A2.out.symm.trans X2.out; simp at this
      clear X1
      have ht : (q.look r a).state = 0 ∨ (q.look r a).state = 1 ∨ (q.look r a).state = 2 := H3.out.look r (q.now + a.wait)
      go_wp2_with fail
      refine (sbAllow_any bb cr r q.s (q.now + a.wait) _ S2.out.sb MI.out (by omega) n3 (by omega) (by unfold SC.look at ht; omega) (by unfold SC.look at ht; omega)).mono ?_
      rintro e w4 ⟨rfl, cr4, s4, k4, m4⟩
      have X4 := Lib.hid (m4.heap X2.out (by simpa using ne2.out))
      have A4 := Lib.hid (m4.heap A2.out (by simpa using ne1.out))
      have nc4 := Lib.hid (show xb ≠ cr4 by have := ne2.out.2; rcases k4 with k | k <;> omega)
      have na4 := Lib.hid (show ba ≠ cr4 by have := ne1.out.2; rcases k4 with k | k <;> omega)
      have S4 := Lib.hid (S2.out.go s4 k4 m4)
      have HT := Lib.hid ht
      clear s4 k4 m4 xc xf a0 zlt xlt ht
      go_upto_if 36 with fail
      have hcc : (q.s.look r (q.now + a.wait)).allowCode r = 0 ∨ 0 < (q.s.look r (q.now + a.wait)).allowCode r := by
        unfold SB.allowCode
        by_cases h2 : (q.s.look r (q.now + a.wait)).state = 2
        · rw [if_pos h2]; exact .inr (by decide)
        · rw [if_neg h2]
          by_cases h1 : (q.s.look r (q.now + a.wait)).state = 1 ∧ mostS r ≤ (q.s.look r (q.now + a.wait)).cnt.r
          · rw [if_pos h1]; exact .inr (by decide)
          · rw [if_neg h1]; exact .inl rfl
      have hlk : ((q.s.look r (q.now + a.wait)).allow1 r).chs.length ≤ 999999 := by
        have := SB.look_chs q.s r (q.now + a.wait)
        have e : ((q.s.look r (q.now + a.wait)).allow1 r).chs.length = (q.s.look r (q.now + a.wait)).chs.length := by unfold SB.allow1; split <;> rfl
        omega
      go_cut [11] (fun s11 wx => ∃ cr', s11 = .int .i64 (q.now' r a) ∧ Hid (KSt w bb r wx { q with s := q.sb r a } cr' u12 ∧ wx.heap[xb]? = some (Obj.cells (toldArr (q.told r a)) 40 (0, 0)) ∧ xb ≠ cr'))
      case first =>
        rcases hcc with hc | hc
        · have HC := Lib.hid hc
          have e2 : ¬ (0 < (q.s.look r (q.now + a.wait)).allowCode r) := by omega
          obtain ⟨cv, hv, _, _⟩ := S4.out.sb.at_
          have bc := hv.cells.1
          have bz := size_of_heap hv
          have a4 : ∀ i, w4.cell? ⟨ba, i, none⟩ = #[.int .i64 a.wait, .int .i64 a.long, .int .i64 a.val, .int .i64 a.err, .bool a.pan][i]? := blk_cell A4.out
          have za := size_of_heap A4.out
          have x4 := blk_cell X4.out
          have f4 := blk_free X4.out
          have xz := size_of_heap X4.out
          have nb : bb ≠ xb := ne2.out.1.symm
          clear hc hv
          go_upto_region 14 with fail
          clear bc bz
          go_region
          have m5 : Mod [xb] w4 (((w4.setCell ⟨xb, 0, none⟩ (.bool true)).setCell ⟨xb, 1, none⟩ (.int .i64 a.val)).setCell ⟨xb, 2, none⟩ (.int .i64 a.err)).drew := ((((Mod.refl [xb] w4).setCell _ _ (by simp)).setCell _ _ (by simp)).setCell _ _ (by simp)).drew
          have S5 := Lib.hid (S4.out.set ne2.out.1 nc4.out U2.out W2.out m5)
          have X5 := Lib.hid (show (((w4.setCell ⟨xb, 0, none⟩ (.bool true)).setCell ⟨xb, 1, none⟩ (.int .i64 a.val)).setCell ⟨xb, 2, none⟩ (.int .i64 a.err)).drew.heap[xb]? = some (Obj.cells (toldArr ⟨true, a.val, a.err, false, Cnt.zero⟩) 40 (0, 0)) from heap_drew ((heap_set_same (heap_set_same (heap_set_same X4.out))).trans (by simp [toldArr, Cnt.zero])))
          have A5 := Lib.hid (m5.heap A4.out (by simpa using nab))
          clear m5 S4 X4 A4 a4 za x4 f4 xz
          generalize (((w4.setCell ⟨xb, 0, none⟩ (.bool true)).setCell ⟨xb, 1, none⟩ (.int .i64 a.val)).setCell ⟨xb, 2, none⟩ (.int .i64 a.err)).drew = w5 at *
          have za := size_of_heap A5.out
          cases hp : a.pan with
          | false =>
            have a5 : ∀ i, w5.cell? ⟨ba, i, none⟩ = #[.int .i64 a.wait, .int .i64 a.long, .int .i64 a.val, .int .i64 a.err, .bool false][i]? := by intro i; rw [← hp]; exact blk_cell A5.out i
            have HP := Lib.hid hp
            have SS := S5
            have XX := X5
            clear hp S5 X5
            go_wp2_with fail
            refine (sbDone_any bb cr4 r ((q.s.look r (q.now + a.wait)).allow1 r) (q.now + a.wait + a.long) ((q.s.look r (q.now + a.wait)).allow1 r).cleared a.err _ SS.out.sb MI.out RO.out (SPlay.allow_three (H3.out.look r _) r) hlk (by omega) (by omega) (by omega) (by omega)).mono ?_
            rintro e w7 ⟨rfl, cr7, s7, k7, m7⟩
            have S7 := Lib.hid (SS.out.go s7 k7 m7)
            have X7 := Lib.hid (m7.heap XX.out (by have := ne2.out.1; have := nc4.out; simp; omega))
            have nc7 := Lib.hid (show xb ≠ cr7 by have := nc4.out; have := size_of_heap XX.out; rcases k7 with k | k <;> omega)
            clear s7 k7 m7
            go_wp2_with fail
            go_meet
            have hq : q.sb r a = ((q.s.look r (q.now + a.wait)).allow1 r).done r (q.now + a.wait + a.long) ((q.s.look r (q.now + a.wait)).allow1 r).cleared (execErr a) := by unfold SC.sb SC.went; rw [if_pos (show (q.look r a).allowCode r = 0 from HC.out)]; rfl
            have hn : q.now' r a = q.now + a.wait + a.long := by unfold SC.now'; rw [if_pos (show (q.look r a).allowCode r = 0 from HC.out)]
            have htt : q.told r a = ⟨true, a.val, a.err, false, Cnt.zero⟩ := by unfold SC.told; rw [if_pos (show (q.look r a).allowCode r = 0 from HC.out), HP.out]; rfl
            have hee : execErr a = a.err := by unfold execErr; rw [HP.out]; rfl
            refine ⟨cr7, by rw [hn], Lib.hid ⟨?_, ?_, nc7.out⟩⟩
            · rw [hq, hee]; exact S7.out.cast rfl rfl
            · rw [htt]; exact X7.out
          | true =>
            have a5 : ∀ i, w5.cell? ⟨ba, i, none⟩ = #[.int .i64 a.wait, .int .i64 a.long, .int .i64 a.val, .int .i64 a.err, .bool true][i]? := by intro i; rw [← hp]; exact blk_cell A5.out i
            have HP := Lib.hid hp
            have x5 := blk_cell X5.out
            have f5 := blk_free X5.out
            have xz := size_of_heap X5.out
            unfold toldArr at x5
            clear hp
            go_upto_region 17 with fail
            have m6 : Mod [xb] w5 ((((((((((w5.setCell ⟨xb, 0, none⟩ (Value.bool true)).setCell ⟨xb, 1, none⟩ (Value.int IntKind.i64 0)).setCell ⟨xb, 2, none⟩ (Value.int IntKind.i64 0)).setCell ⟨xb, 3, none⟩ (Value.bool true)).setCell ⟨xb, 4, none⟩ (Value.int IntKind.u32 0)).setCell ⟨xb, 5, none⟩ (Value.int IntKind.u32 0)).setCell ⟨xb, 6, none⟩ (Value.int IntKind.u32 0)).setCell ⟨xb, 7, none⟩ (Value.int IntKind.u32 0)).setCell ⟨xb, 8, none⟩ (Value.int IntKind.u32 0)).setCell ⟨xb, 9, none⟩ (Value.int IntKind.u32 0)) := ((((((((((Mod.refl [xb] w5).setCell _ _ (by simp)).setCell _ _ (by simp)).setCell _ _ (by simp)).setCell _ _ (by simp)).setCell _ _ (by simp)).setCell _ _ (by simp)).setCell _ _ (by simp)).setCell _ _ (by simp)).setCell _ _ (by simp)).setCell _ _ (by simp)
            have SS := Lib.hid (S5.out.set ne2.out.1 nc4.out U2.out W2.out m6)
            have XX := Lib.hid (show ((((((((((w5.setCell ⟨xb, 0, none⟩ (Value.bool true)).setCell ⟨xb, 1, none⟩ (Value.int IntKind.i64 0)).setCell ⟨xb, 2, none⟩ (Value.int IntKind.i64 0)).setCell ⟨xb, 3, none⟩ (Value.bool true)).setCell ⟨xb, 4, none⟩ (Value.int IntKind.u32 0)).setCell ⟨xb, 5, none⟩ (Value.int IntKind.u32 0)).setCell ⟨xb, 6, none⟩ (Value.int IntKind.u32 0)).setCell ⟨xb, 7, none⟩ (Value.int IntKind.u32 0)).setCell ⟨xb, 8, none⟩ (Value.int IntKind.u32 0)).setCell ⟨xb, 9, none⟩ (Value.int IntKind.u32 0)).heap[xb]? = some (Obj.cells (toldArr ⟨true, 0, 0, true, Cnt.zero⟩) 40 (0, 0)) from (heap_set_same (heap_set_same (heap_set_same (heap_set_same (heap_set_same (heap_set_same (heap_set_same (heap_set_same (heap_set_same (heap_set_same X5.out)))))))))).trans (by simp [toldArr, Cnt.zero]))
            clear m6 S5 X5 x5 f5 xz A5 a5 za
            generalize ((((((((((w5.setCell ⟨xb, 0, none⟩ (Value.bool true)).setCell ⟨xb, 1, none⟩ (Value.int IntKind.i64 0)).setCell ⟨xb, 2, none⟩ (Value.int IntKind.i64 0)).setCell ⟨xb, 3, none⟩ (Value.bool true)).setCell ⟨xb, 4, none⟩ (Value.int IntKind.u32 0)).setCell ⟨xb, 5, none⟩ (Value.int IntKind.u32 0)).setCell ⟨xb, 6, none⟩ (Value.int IntKind.u32 0)).setCell ⟨xb, 7, none⟩ (Value.int IntKind.u32 0)).setCell ⟨xb, 8, none⟩ (Value.int IntKind.u32 0)).setCell ⟨xb, 9, none⟩ (Value.int IntKind.u32 0)) = w6 at *
            go_wp2_with fail
            refine (sbDone_any bb cr4 r ((q.s.look r (q.now + a.wait)).allow1 r) (q.now + a.wait + a.long) ((q.s.look r (q.now + a.wait)).allow1 r).cleared 7 _ SS.out.sb MI.out RO.out (SPlay.allow_three (H3.out.look r _) r) hlk (by omega) (by omega) (by omega) (by omega)).mono ?_
            rintro e w7 ⟨rfl, cr7, s7, k7, m7⟩
            have S7 := Lib.hid (SS.out.go s7 k7 m7)
            have X7 := Lib.hid (m7.heap XX.out (by have := ne2.out.1; have := nc4.out; simp; omega))
            have nc7 := Lib.hid (show xb ≠ cr7 by have := nc4.out; have := size_of_heap XX.out; rcases k7 with k | k <;> omega)
            clear s7 k7 m7
            go_wp2_with fail
            go_meet
            have hq : q.sb r a = ((q.s.look r (q.now + a.wait)).allow1 r).done r (q.now + a.wait + a.long) ((q.s.look r (q.now + a.wait)).allow1 r).cleared (execErr a) := by unfold SC.sb SC.went; rw [if_pos (show (q.look r a).allowCode r = 0 from HC.out)]; rfl
            have hn : q.now' r a = q.now + a.wait + a.long := by unfold SC.now'; rw [if_pos (show (q.look r a).allowCode r = 0 from HC.out)]
            have htt : q.told r a = ⟨true, 0, 0, true, Cnt.zero⟩ := by unfold SC.told; rw [if_pos (show (q.look r a).allowCode r = 0 from HC.out), HP.out]; rfl
            have hee : execErr a = 7 := by unfold execErr; rw [HP.out]; rfl
            refine ⟨cr7, by rw [hn], Lib.hid ⟨?_, ?_, nc7.out⟩⟩
            · rw [hq, hee]; exact S7.out.cast rfl rfl
            · rw [htt]; exact X7.out
        · have hle : (q.s.look r (q.now + a.wait)).allowCode r ≤ 2 := by
            unfold SB.allowCode
            split
            · decide
            · split <;> decide
          have x4 := blk_cell X4.out
          have f4 := blk_free X4.out
          have xz := size_of_heap X4.out
          have HC := Lib.hid (show ¬ (q.look r a).allowCode r = 0 from fun x => by have : (q.s.look r (q.now + a.wait)).allowCode r = 0 := x; omega)
          go_wp2_with fail
          go_meet
          have hq : q.sb r a = (q.s.look r (q.now + a.wait)).allow1 r := by unfold SC.sb; rw [if_neg HC.out]; rfl
          have hn : q.now' r a = q.now + a.wait := by unfold SC.now'; rw [if_neg HC.out]
          have htt : q.told r a = ⟨false, 0, -(q.s.look r (q.now + a.wait)).allowCode r, false, Cnt.zero⟩ := by unfold SC.told; rw [if_neg HC.out]; rfl
          refine ⟨cr4, by rw [hn], Lib.hid ⟨?_, ?_, nc4.out⟩⟩
          · rw [hq]
            exact (S4.out.set ne2.out.1 nc4.out U2.out W2.out ((Mod.refl [xb] w4).setCell ⟨xb, 2, none⟩ (.int .i64 (-(q.s.look r (q.now + a.wait)).allowCode r)) (by simp))).cast rfl rfl
          · rw [htt]
            exact (heap_set_same X4.out).trans (by simp [toldArr, Cnt.zero])
      case rest =>
        obtain ⟨cr5, rfl, hh5⟩ := hcut
        obtain ⟨s5, h5x, h5n⟩ := hh5.out
        have S5 := Lib.hid s5
        have X5 := Lib.hid h5x
        have N5 := Lib.hid h5n
        obtain ⟨cv, hv, _, _⟩ := s5.sb.at_
        have hc := hv.cells.1
        have x5 := blk_cell h5x
        have f5 := blk_free h5x
        have zx := size_of_heap h5x
        have zb := size_of_heap hv
        have nbx : bb ≠ xb := ne2.out.1.symm
        unfold toldArr at x5
        clear s5 h5x h5n hh5 hv S4 A4 X4 hcc
        go_upto_region 20 with fail
        have m8 : Mod [xb] wc ((((((wc.setCell ⟨xb, 4, none⟩ (Value.int IntKind.u32 (q.sb r a).cnt.r)).setCell ⟨xb, 5, none⟩ (Value.int IntKind.u32 (q.sb r a).cnt.s)).setCell ⟨xb, 6, none⟩ (Value.int IntKind.u32 (q.sb r a).cnt.f)).setCell ⟨xb, 7, none⟩ (Value.int IntKind.u32 (q.sb r a).cnt.x)).setCell ⟨xb, 8, none⟩ (Value.int IntKind.u32 (q.sb r a).cnt.g)).setCell ⟨xb, 9, none⟩ (Value.int IntKind.u32 (q.sb r a).cnt.h)) := ((((((Mod.refl [xb] wc).setCell _ _ (by simp)).setCell _ _ (by simp)).setCell _ _ (by simp)).setCell _ _ (by simp)).setCell _ _ (by simp)).setCell _ _ (by simp)
        have S9 := Lib.hid (S5.out.set ne2.out.1 N5.out U2.out W2.out m8)
        have HX9 : ((((((wc.setCell ⟨xb, 4, none⟩ (Value.int IntKind.u32 (q.sb r a).cnt.r)).setCell ⟨xb, 5, none⟩ (Value.int IntKind.u32 (q.sb r a).cnt.s)).setCell ⟨xb, 6, none⟩ (Value.int IntKind.u32 (q.sb r a).cnt.f)).setCell ⟨xb, 7, none⟩ (Value.int IntKind.u32 (q.sb r a).cnt.x)).setCell ⟨xb, 8, none⟩ (Value.int IntKind.u32 (q.sb r a).cnt.g)).setCell ⟨xb, 9, none⟩ (Value.int IntKind.u32 (q.sb r a).cnt.h)).heap[xb]? = some (Obj.cells #[Value.bool (q.told r a).ran, Value.int IntKind.i64 (q.told r a).val, Value.int IntKind.i64 (q.told r a).err, Value.bool (q.told r a).pan, Value.int IntKind.u32 (q.sb r a).cnt.r, Value.int IntKind.u32 (q.sb r a).cnt.s, Value.int IntKind.u32 (q.sb r a).cnt.f, Value.int IntKind.u32 (q.sb r a).cnt.x, Value.int IntKind.u32 (q.sb r a).cnt.g, Value.int IntKind.u32 (q.sb r a).cnt.h] 40 (0, 0)) := (heap_set_same (heap_set_same (heap_set_same (heap_set_same (heap_set_same (heap_set_same X5.out)))))).trans (by simp [toldArr])
        have x9 := blk_cell HX9
        have zx9 := size_of_heap HX9
        clear m8 HX9 S5 X5 x5 f5 zx zb hc
        generalize ((((((wc.setCell ⟨xb, 4, none⟩ (Value.int IntKind.u32 (q.sb r a).cnt.r)).setCell ⟨xb, 5, none⟩ (Value.int IntKind.u32 (q.sb r a).cnt.s)).setCell ⟨xb, 6, none⟩ (Value.int IntKind.u32 (q.sb r a).cnt.f)).setCell ⟨xb, 7, none⟩ (Value.int IntKind.u32 (q.sb r a).cnt.x)).setCell ⟨xb, 8, none⟩ (Value.int IntKind.u32 (q.sb r a).cnt.g)).setCell ⟨xb, 9, none⟩ (Value.int IntKind.u32 (q.sb r a).cnt.h)) = W9 at *
        obtain ⟨i0, hi0, hz0, hz1, hz2⟩ := info_parts infoTold
        have hob : q.out.length ≤ 100000 := by have := B4.out; omega
        have hbase := S9.out.bel.size
        go_wp2_with (refine wpList_append_lies _ (by rfl) _ _ _ (by rfl) w.heap.size 40 i0 (.agg #[.bool false, .int .i64 0, .int .i64 0, .bool false, .int .u32 0, .int .u32 0, .int .u32 0, .int .u32 0, .int .u32 0, .int .u32 0]) 10 56 Tryz.underlying29 hi0 hz0 hz1 hz2 rfl (by omega) u12 q.out.length (toldFlat q.out) (by rfl) (S9.out.ot.alloc _) ⟨W9.heap.size, 0, none⟩ 1 1 (toldRow { q.told r a with cnt := (q.sb r a).cnt }) (by rfl) rfl (World.news_of_block (heap_alloc_new W9 _)) (by intro u hu; simp [toldRow] at hu; rcases hu with rfl | rfl | rfl | rfl | rfl | rfl | rfl | rfl | rfl | rfl <;> rfl) (by omega) (by unfold maxLen; omega) (by omega) (by simp; omega) (W9.heap.size + 1) (by simp) ?_; intro g cp wA hown hgrow hat hlt)
        go_roundg (l.length - (i + 1))
        case measure => omega
        case rel =>
          have SA := (S9.out.alloc (Obj.cells (toldRow { q.told r a with cnt := (q.sb r a).cnt }).toArray 40)).pushOut hown hgrow (by simpa using hat)
          have SA' : KSt w bb r wA (q.step r a) cr5 (.slice (some ⟨g, 0, none⟩) (q.out.length + 1) cp) := SA.cast rfl rfl
          have q1 := SC.sb_chs r q a
          have hnw : q.now + a.wait ≤ q.now' r a ∧ q.now' r a ≤ q.now + a.wait + a.long := by unfold SC.now'; split <;> omega
          refine ⟨i + 1, q.step r a, cr5, rfl, hin, by first | rfl | simp, rfl, Lib.hid ⟨SA', SC.sb_three H3.out a, ?_, ?_, ?_, ?_, ?_⟩⟩
          · rw [← HR.out]; exact (SC.run_drop r q LA.out).symm
          · show (q.sb r a).chs.length ≤ _
            omega
          · show (q.out ++ [_]).length = i + 1
            rw [List.length_append, B4.out]; rfl
          · show _ ≤ q.now' r a
            omega
          · show q.now' r a ≤ _
            omega
    · have hiz : ¬ ((i : Int) < (l.length : Int)) := by omega
      have hieq : i = l.length := by omega
      obtain ⟨hS, h3, hR, b1, b4, n0, n1⟩ := hh.out
      have hq : q = SC.run r (SC.start r start) l := by rw [← hR, hieq, List.drop_length]; rfl
      have HQ := Lib.hid hq
      have HS := Lib.hid hS
      clear hq hieq hS h3 hR b4 hh HA
      go_wp2_with fail
      refine (sbLook_any bb cr r q.s q.now _ HS.out.sb MI.out (by omega) (by omega) (by omega)).mono ?_
      rintro e w4 ⟨rfl, cr4, s4, k4, m4⟩
      have S4 := Lib.hid (HS.out.go s4 k4 m4)
      obtain ⟨cv, hv, ho, hr⟩ := s4.at_
      have hc := hv.cells.1
      have zb := size_of_heap hv
      have HO := Lib.hid ho
      have HRW := Lib.hid hr
      clear s4 k4 m4 hv ho hr
      go_wp2_with fail
      go_region
      go_wp2_with fail
      refine bodyPost_ret (results_tmp4 rfl _ _ _) rfl ?_
      refine ⟨u12, cv, by rw [← HQ.out]; rfl, S4.out.bel.drew, ?_, ?_⟩
      · rw [← HQ.out]; exact S4.out.ot
      · rw [← HQ.out]
        refine owns_base HO.out ?_
        intro g hg
        rcases HRW.out with e | e
        · rw [e] at hg; cases hg
        · rw [e] at hg; simp at hg; subst hg; exact S4.out.c0

end Go.Proofs.YtcjklacfoldaoaaGreat

/- Contract of AreCalls. Conditions: the calls can be read, the rules' numbers are in their types' ranges. -/
namespace Go.Proofs.YtcjklacfoldaoaaGreat
open Go.RowKit
attribute [local go_sem ↓] Go.wp_at_zero Go.wp_at_succ

theorem CallsAt.below {w w' : World} {v : Value} {l : List Call} (h : CallsAt w v l) (b : Below w.heap.size w w') : CallsAt w' v l := by
  obtain ⟨p, cap, rfl, ha⟩ := h
  refine ⟨p, cap, rfl, fun i x hx => ?_⟩
  obtain ⟨k, o, rfl, hk, hc⟩ := ha i x hx
  exact ⟨k, o, rfl, Nat.lt_of_lt_of_le hk b.size, fun j u hu => (b.cell (p := ⟨k, o + i * 5 + j, none⟩) hk).trans (hc j u hu)⟩

set_option maxRecDepth 100000 in
set_option maxHeartbeats 1000000 in
theorem areCalls_rules (r : Rules) (start : Int) (va : Value) (_l : List Call) (w : World) (h : areRules r = false) :
    Calls Tryz.prog 9 #[rulesV r, .int .i64 start, va] w fun e w' => e = .returned (.bool false) ∧ Below w.heap.size w w' := by
  have F := Lib.hid h
  clear h
  unfold rulesV
  go_enter Tryz.func9, Tryz.ntmps9
  go_wp2_with fail
  refine (areRules_any r _).mono ?_
  rintro e w2 ⟨rfl, hb2⟩
  rw [F.out]
  go_wp2_with fail
  go_ret
  exact ⟨rfl, ((Below.refl _ _).alloc (Nat.le_refl _) _).trans (hb2.mono (by simp))⟩


set_option maxRecDepth 100000 in
set_option maxHeartbeats 1000000 in
theorem areCalls_time (r : Rules) (start : Int) (va : Value) (_l : List Call) (w : World) (h : areRules r = true) (ht : isTime start = false) :
    Calls Tryz.prog 9 #[rulesV r, .int .i64 start, va] w fun e w' => e = .returned (.bool false) ∧ Below w.heap.size w w' := by
  have F := Lib.hid h
  have T := Lib.hid ht
  clear h ht
  unfold rulesV
  go_enter Tryz.func9, Tryz.ntmps9
  go_wp2_with fail
  refine (areRules_any r _).mono ?_
  rintro e w2 ⟨rfl, hb2⟩
  rw [F.out]
  go_wp2_with fail
  refine (isTime_any start _).mono ?_
  rintro e w3 ⟨rfl, rfl⟩
  rw [T.out]
  go_wp2_with fail
  go_ret
  exact ⟨rfl, ((Below.refl _ _).alloc (Nat.le_refl _) _).trans (hb2.mono (by simp))⟩


set_option maxRecDepth 100000 in
set_option maxHeartbeats 1000000 in
theorem areCalls_long (r : Rules) (start : Int) (va : Value) (l : List Call) (w : World) (h : areRules r = true) (ht : isTime start = true) (ha : CallsAt w va l) (hl : 1000 < l.length) :
    Calls Tryz.prog 9 #[rulesV r, .int .i64 start, va] w fun e w' => e = .returned (.bool false) ∧ Below w.heap.size w w' := by
  obtain ⟨pa, cap, rfl, _⟩ := ha
  have F := Lib.hid h
  have T := Lib.hid ht
  have hlz : (1000 : Int) < (l.length : Int) := by omega
  clear h ht
  unfold rulesV
  go_enter Tryz.func9, Tryz.ntmps9
  go_wp2_with fail
  refine (areRules_any r _).mono ?_
  rintro e w2 ⟨rfl, hb2⟩
  rw [F.out]
  go_wp2_with fail
  refine (isTime_any start _).mono ?_
  rintro e w3 ⟨rfl, rfl⟩
  rw [T.out]
  go_wp2_with fail
  go_ret
  exact ⟨rfl, ((Below.refl _ _).alloc (Nat.le_refl _) _).trans (hb2.mono (by simp))⟩


set_option maxRecDepth 100000 in
set_option maxHeartbeats 1000000 in
theorem areCalls_loop (r : Rules) (start : Int) (va : Value) (l : List Call) (w : World) (h : areRules r = true) (ht : isTime start = true) (rok : r.Ok) (m0 : 0 ≤ r.most) (m1 : r.most < 4294967296) (ha : CallsAt w va l) (hl : l.length ≤ 1000) :
    Calls Tryz.prog 9 #[rulesV r, .int .i64 start, va] w fun e w' => e = .returned (.bool (areCalls r start l)) ∧ Below w.heap.size w w' := by
  have HAT := Lib.hid ha
  obtain ⟨pa, cap, rfl, hacts⟩ := ha
  have HA := Lib.hid hacts
  have F := Lib.hid h
  have T := Lib.hid ht
  have RO := Lib.hid rok
  have MI := Lib.hid (mild_of h m0 m1)
  have hlz : (l.length : Int) ≤ 1000 := by omega
  clear h ht hacts rok
  unfold rulesV
  go_enter Tryz.func9, Tryz.ntmps9
  go_wp2_with fail
  refine (areRules_any r _).mono ?_
  rintro e w2 ⟨rfl, hb2⟩
  rw [F.out]
  have B2 := Lib.hid (((Below.refl _ _).alloc (Nat.le_refl _) _).trans (hb2.mono (by simp)) : Below w.heap.size w w2)
  have R2 := Lib.hid ((hb2.block w.heap.size (by simp)).trans (heap_alloc_new w (Obj.cells (rulesArr r) 24)))
  clear hb2
  go_wp2_with fail
  refine (isTime_any start _).mono ?_
  rintro e w3 ⟨rfl, rfl⟩
  rw [T.out]
  go_wp2_with fail
  go_loopg [28] l.length (fun g s28 wx => ∃ i : Nat, g = l.length - i ∧ i ≤ l.length ∧ s28 = .int .i64 (i : Int) ∧ Hid (Below w.heap.size w wx ∧ wx.heap[w.heap.size]? = some (Obj.cells (rulesArr r) 24 (0, 0)) ∧ ∀ (j : Nat) (a : Call), j < i → l[j]? = some a → callOk a = true))
  case atStart =>
    exact ⟨0, rfl, Nat.zero_le _, rfl, Lib.hid ⟨B2.out, R2.out, fun j a hj => absurd hj (Nat.not_lt_zero _)⟩⟩
  case round =>
    obtain ⟨i, rfl, hi, rfl, hh⟩ := hrel
    obtain ⟨hB, hR, hP⟩ := hh.out
    have B := Lib.hid hB
    have R := Lib.hid hR
    have P := Lib.hid hP
    clear hh hB hR hP B2 R2
    by_cases hin : i < l.length
    · have hiz : (i : Int) < (l.length : Int) := by omega
      obtain ⟨a, hla⟩ : ∃ a, l[i]? = some a := ⟨_, List.getElem?_eq_getElem hin⟩
      obtain ⟨ab, ao, rfl, hblk, hcell⟩ := HA.out i a hla
      have hbc := fun j u hj => (B.out.cell (p := ⟨ab, ao + i * 5 + j, none⟩) hblk).trans (hcell j u hj)
      have k0 : wr.cell? ⟨ab, ao + i * 5, none⟩ = some (.int .i64 a.wait) := hbc 0 _ rfl
      have k1 := hbc 1 _ rfl
      have k2 := hbc 2 _ rfl
      have k3 := hbc 3 _ rfl
      have k4 := hbc 4 _ rfl
      have LA := Lib.hid hla
      clear hbc hcell hla hblk
      cases hw : isWait a.wait with
      | true =>
        have HW := Lib.hid hw
        clear hw
        cases hw2 : isWait a.long with
        | true =>
          have HL := Lib.hid hw2
          clear hw2
          cases he : isError a.err with
          | true =>
            have HE := Lib.hid he
            clear he
            go_wp2_with fail
            refine (isWait_any a.wait _).mono ?_
            rintro e w4 ⟨rfl, rfl⟩
            rw [HW.out]
            go_wp2_with fail
            refine (isWait_any a.long _).mono ?_
            rintro e w4 ⟨rfl, rfl⟩
            rw [HL.out]
            go_wp2_with fail
            refine (isError_any a.err _).mono ?_
            rintro e w5 ⟨rfl, rfl⟩
            rw [HE.out]
            go_wp2_with fail
            go_roundg (l.length - (i + 1))
            case measure => omega
            case rel =>
              refine ⟨i + 1, rfl, hin, by first | rfl | simp, Lib.hid ⟨B.out.alloc (by have := B.out.size; omega) _, heap_alloc_lt R.out, ?_⟩⟩
              intro j x hj hx
              rcases Nat.lt_or_ge j i with h | h
              · exact P.out j x h hx
              · have e : j = i := by omega
                subst e
                rw [LA.out] at hx
                cases hx
                unfold callOk
                simp [HW.out, HL.out, HE.out]
          | false =>
            have HE := Lib.hid he
            go_wp2_with fail
            refine (isWait_any a.wait _).mono ?_
            rintro e w4 ⟨rfl, rfl⟩
            rw [HW.out]
            go_wp2_with fail
            refine (isWait_any a.long _).mono ?_
            rintro e w4 ⟨rfl, rfl⟩
            rw [HL.out]
            go_wp2_with fail
            refine (isError_any a.err _).mono ?_
            rintro e w5 ⟨rfl, rfl⟩
            rw [HE.out]
            go_wp2_with fail
            have hal : areCalls r start l = false := by
              have : l.all callOk = false := by
                cases hx : l.all callOk with
                | false => rfl
                | true => have := calls_get hx LA.out; rw [show callOk a = false by unfold callOk; simp [HE.out]] at this; cases this
              unfold areCalls; simp [this]
            rw [hal]
            go_ret
            exact ⟨rfl, B.out.alloc (by have := B.out.size; omega) _⟩
        | false =>
          have HL := Lib.hid hw2
          go_wp2_with fail
          refine (isWait_any a.wait _).mono ?_
          rintro e w4 ⟨rfl, rfl⟩
          rw [HW.out]
          go_wp2_with fail
          refine (isWait_any a.long _).mono ?_
          rintro e w4 ⟨rfl, rfl⟩
          rw [HL.out]
          go_wp2_with fail
          have hal : areCalls r start l = false := by
            have : l.all callOk = false := by
              cases hx : l.all callOk with
              | false => rfl
              | true => have := calls_get hx LA.out; rw [show callOk a = false by unfold callOk; simp [HL.out]] at this; cases this
            unfold areCalls; simp [this]
          rw [hal]
          go_ret
          exact ⟨rfl, B.out.alloc (by have := B.out.size; omega) _⟩
      | false =>
        have HW := Lib.hid hw
        go_wp2_with fail
        refine (isWait_any a.wait _).mono ?_
        rintro e w4 ⟨rfl, rfl⟩
        rw [HW.out]
        go_wp2_with fail
        have hal : areCalls r start l = false := by
          have : l.all callOk = false := by
            cases hx : l.all callOk with
            | false => rfl
            | true => have := calls_get hx LA.out; rw [show callOk a = false by unfold callOk; simp [HW.out]] at this; cases this
          unfold areCalls; simp [this]
        rw [hal]
        go_ret
        exact ⟨rfl, B.out.alloc (by have := B.out.size; omega) _⟩
    · have hiz : ¬ ((i : Int) < (l.length : Int)) := by omega
      have hieq : i = l.length := by omega
      have hall : l.all callOk = true := by
        rw [List.all_eq_true]
        intro x hx
        obtain ⟨j, hj⟩ := List.getElem?_of_mem hx
        have hjl : j < l.length := by
          rcases Nat.lt_or_ge j l.length with h | h
          · exact h
          · rw [List.getElem?_eq_none h] at hj; cases hj
        exact P.out j x (by omega) hj
      have AL := Lib.hid hall
      have c : ∀ i, wr.cell? ⟨w.heap.size, i, none⟩ = #[.string r.name, .int .u32 r.most, .int .i64 r.interval, .int .i64 r.bucket, .int .i64 r.timeout, .int .i64 r.trip, .int .u32 r.bound, .bool r.hasGood, .int .u8 r.good, .bool r.hasOut, .int .u8 r.out][i]? := blk_cell R.out
      obtain ⟨s0, s1⟩ := isTime_parts T.out
      have hts := calls_any r start (.slice pa l.length cap) l wr MI.out RO.out s0 s1 (HAT.out.below B.out) hl hall
      have HTS := Lib.hid hts
      clear hall hts
      go_wp2_with fail
      refine HTS.out.mono ?_
      rintro e w6 ⟨vo, vc, rfl, hb6, _, _⟩
      go_wp2_with fail
      go_ret
      refine ⟨?_, B.out.trans (hb6.mono B.out.size)⟩
      have : areCalls r start l = !((SC.run r (SC.start r start) l).fin r).opn := by unfold areCalls; rw [F.out, T.out, AL.out, decide_eq_true hl]; simp
      rw [this]
      rfl


theorem areCalls_any (r : Rules) (start : Int) (va : Value) (l : List Call) (w : World) (rok : r.Ok) (m0 : 0 ≤ r.most) (m1 : r.most < 4294967296) (ha : CallsAt w va l) :
    Calls Tryz.prog 9 #[rulesV r, .int .i64 start, va] w fun e w' => e = .returned (.bool (areCalls r start l)) ∧ Below w.heap.size w w' := by
  cases h1 : areRules r with
  | false =>
    have e : areCalls r start l = false := by unfold areCalls; simp [h1]
    rw [e]; exact areCalls_rules r start va l w h1
  | true =>
    cases h2 : isTime start with
    | false =>
      have e : areCalls r start l = false := by unfold areCalls; simp [h2]
      rw [e]; exact areCalls_time r start va l w h1 h2
    | true =>
      by_cases h3 : l.length ≤ 1000
      · exact areCalls_loop r start va l w h1 h2 rok m0 m1 ha h3
      · have e : areCalls r start l = false := by unfold areCalls; simp [h3]
        rw [e]; exact areCalls_long r start va l w h1 h2 ha (by omega)

end Go.Proofs.YtcjklacfoldaoaaGreat
