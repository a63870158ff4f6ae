import Derived.BigQuiet
import Derived.Deep.CutBlock
import Derived.Deep.LoopGhost
import Derived.Deep.DeepCutAuto
import Derived.Test.YtcjklacfoldaoaaLook
import Derived.Test.YtcjklacfoldaoaaRcClear
/- The rolling counts of requests that take no time, as plain data. Condition: few requests. -/
namespace Go.Proofs.Ytcjklacfoldaoaa
open Go.RowKit

theorem roll_u64 {n : Int} (h0 : 0 ≤ n) (h1 : n ≤ 9000000000000000000) : w64u n = n := by
  show n % 18446744073709551616 = n
  omega
theorem roll_u32 {n : Int} (h0 : 0 ≤ n) (h1 : n < 4294967296) : w32 n = n := by unfold w32; omega

/-- How many requests are of a kind. -/
def cn (q : Int × Bool → Bool) (h : List (Int × Bool)) : Int := ((h.countP q : Nat) : Int)
theorem cn_nonneg (q : Int × Bool → Bool) (h : List (Int × Bool)) : 0 ≤ cn q h := by unfold cn; omega
theorem cn_le (q : Int × Bool → Bool) (h : List (Int × Bool)) : cn q h ≤ h.length := by
  unfold cn; have := List.countP_le_length (p := q) (l := h); omega
theorem cn_snoc (q : Int × Bool → Bool) (h : List (Int × Bool)) (x : Int × Bool) : cn q (h ++ [x]) = cn q h + (if q x then 1 else 0) := by
  unfold cn
  rw [List.countP_append, List.countP_singleton]
  split <;> simp
theorem cn_congr {q q' : Int × Bool → Bool} {h : List (Int × Bool)} (e : ∀ x ∈ h, q x = q' x) : cn q h = cn q' h := by
  unfold cn
  rw [List.countP_congr (fun x hx => by rw [e x hx])]
theorem cn_zero {q : Int × Bool → Bool} {h : List (Int × Bool)} (e : ∀ x ∈ h, q x = false) : cn q h = 0 := by
  unfold cn
  rw [List.countP_eq_zero.2 (fun x hx => by rw [e x hx]; simp)]
  rfl
theorem cn_split (p q : Int × Bool → Bool) (h : List (Int × Bool)) : cn p h = cn (fun x => q x && p x) h + cn (fun x => !q x && p x) h := by
  unfold cn
  induction h with
  | nil => rfl
  | cons x h ih =>
    simp only [List.countP_cons]
    cases q x <;> cases p x <;> simp <;> omega

def inW (k A : Int) (x : Int × Bool) : Bool := decide (A - k < x.1)
def inS (k j : Int) (x : Int × Bool) : Bool := x.1 % k == j

/-- A number of the counts is that of the window, and a bucket's that of the bucket. -/
structure Line (k : Nat) (h : List (Int × Bool)) (c : RC) (f : Cnt → Int) (q : Bool → Bool) : Prop where
  tot : f c.tot = cn (fun x => inW k c.age x && q x.2) h
  bk : ∀ j : Nat, j < k → f (c.bs.getD j Cnt.zero) = cn (fun x => inS k j x && (inW k c.age x && q x.2)) h

theorem slot_next {k : Nat} (_hk : 1 ≤ k) {a x : Int} (_h0 : 0 ≤ a) (hx : x ≤ a) : (¬ x % (k : Int) = (a + 1) % (k : Int) ∧ a - k < x) ↔ a + 1 - k < x := by
  constructor
  · rintro ⟨h1, h2⟩
    rcases Int.lt_or_le (a + 1 - k) x with h | h
    · exact h
    · exfalso
      apply h1
      have : x = a + 1 - k := by omega
      rw [this, Int.sub_emod_right]
  · intro h
    refine ⟨fun e => ?_, by omega⟩
    have h1 : (a + 1 - x) % (k : Int) = 0 := Int.emod_eq_emod_iff_emod_sub_eq_zero.1 e.symm
    rw [Int.emod_eq_of_lt (by omega) (by omega)] at h1
    omega

theorem Line.roll {k : Nat} {h : List (Int × Bool)} {c c' : RC} {f : Cnt → Int} {q : Bool → Bool} (l : Line k h c f q) (hk : 1 ≤ k) (hh : h.length ≤ 1000000) (a0 : 0 ≤ c.age) (old : ∀ x ∈ h, x.1 ≤ c.age) (ha : c'.age = c.age + 1)
    {j0 : Nat} (hj : (c.age + 1) % (k : Int) = (j0 : Int)) (hjk : j0 < k) (ht : f c'.tot = RC.less (f c.tot) (f (c.bs.getD j0 Cnt.zero))) (hb : ∀ j : Nat, j < k → f (c'.bs.getD j Cnt.zero) = if j = j0 then 0 else f (c.bs.getD j Cnt.zero)) : Line k h c' f q := by
  have key : ∀ x ∈ h, (decide (¬ x.1 % (k : Int) = (j0 : Int)) && decide (c.age - k < x.1)) = decide (c.age + 1 - k < x.1) := by
    intro x hx
    have := slot_next hk a0 (old x hx)
    rw [hj] at this
    by_cases h1 : c.age + 1 - k < x.1
    · obtain ⟨p, r⟩ := this.2 h1
      rw [decide_eq_true h1, decide_eq_true p, decide_eq_true r]; rfl
    · rw [decide_eq_false h1]
      by_cases p : ¬ x.1 % (k : Int) = (j0 : Int)
      · have : ¬ c.age - k < x.1 := fun r => h1 (this.1 ⟨p, r⟩)
        rw [decide_eq_false this, Bool.and_false]
      · rw [decide_eq_false p, Bool.false_and]
  constructor
  · rw [ht, l.tot, l.bk j0 hjk]
    have hs := cn_split (fun x => inW k c.age x && q x.2) (inS k j0) h
    have n1 := cn_nonneg (fun x => inS k j0 x && (inW k c.age x && q x.2)) h
    have n2 := cn_nonneg (fun x => !inS k j0 x && (inW k c.age x && q x.2)) h
    have n3 := cn_le (fun x => inW k c.age x && q x.2) h
    have e : cn (fun x => !inS k j0 x && (inW k c.age x && q x.2)) h = cn (fun x => inW k c'.age x && q x.2) h := by
      refine cn_congr fun x hx => ?_
      have := key x hx
      unfold inS inW
      rw [ha, ← this]
      by_cases p : x.1 % (k : Int) = (j0 : Int)
      · simp [p]
      · simp [p]
    rw [← e]
    unfold RC.less
    split
    · rw [roll_u32 (by omega) (by omega)]; omega
    · omega
  · intro j hjl
    rw [hb j hjl]
    split
    · next e =>
      subst e
      symm
      refine cn_zero fun x hx => ?_
      have := key x hx
      unfold inS inW
      rw [ha, ← this]
      by_cases p : x.1 % (k : Int) = (j : Int)
      · simp [p]
      · simp [p]
    · next e =>
      rw [l.bk j hjl]
      refine cn_congr fun x hx => ?_
      have := key x hx
      unfold inS inW
      rw [ha, ← this]
      by_cases p : x.1 % (k : Int) = (j : Int)
      · have e2 : ((j : Int) = (j0 : Int)) = False := by simp; omega
        simp [p, e2]
      · have e3 : (x.1 % (k : Int) == (j : Int)) = false := by simpa using p
        rw [e3]; rfl

structure RInv (k : Nat) (h : List (Int × Bool)) (c : RC) : Prop where
  len : c.bs.length = k
  age0 : 0 ≤ c.age
  age1 : c.age ≤ 1000000000000000000
  old : ∀ x ∈ h, x.1 ≤ c.age
  lr : Line k h c Cnt.r (fun _ => true)
  ls : Line k h c Cnt.s id
  lf : Line k h c Cnt.f not

theorem getD_zeros (n j : Nat) : (List.replicate n Cnt.zero).getD j Cnt.zero = Cnt.zero := by
  simp only [List.getD, List.getElem?_replicate]
  split <;> rfl
theorem getD_modify {l : List Cnt} {i j : Nat} {g : Cnt → Cnt} (hj : j < l.length) : (l.modify i g).getD j Cnt.zero = if j = i then g (l.getD j Cnt.zero) else l.getD j Cnt.zero := by
  simp only [List.getD, List.getElem?_modify]
  by_cases e : i = j
  · subst e; simp [hj]
  · simp [e, Ne.symm e]

theorem RInv.roll {k : Nat} {h : List (Int × Bool)} {c : RC} (i : RInv k h c) (hk : 1 ≤ k) (hh : h.length ≤ 1000000) (ha : c.age + 1 ≤ 1000000000000000000) : RInv k h c.roll ∧ c.roll.age = c.age + 1 := by
  have a0 := i.age0
  have ew : w64u (c.age + 1) = c.age + 1 := roll_u64 (by omega) (by omega)
  have m1 := Int.emod_nonneg (c.age + 1) (b := (k : Int)) (by omega)
  have m2 := Int.emod_lt_of_pos (c.age + 1) (b := (k : Int)) (by omega)
  obtain ⟨j0, hj0⟩ : ∃ j0 : Nat, (c.age + 1) % (k : Int) = (j0 : Int) := ⟨((c.age + 1) % (k : Int)).toNat, by omega⟩
  have hjk : j0 < k := by omega
  have e : c.roll = { tot := { r := RC.less c.tot.r (c.bs.getD j0 Cnt.zero).r, s := RC.less c.tot.s (c.bs.getD j0 Cnt.zero).s, f := RC.less c.tot.f (c.bs.getD j0 Cnt.zero).f, x := c.roll.tot.x, g := c.roll.tot.g, h := c.roll.tot.h }, age := c.age + 1, bs := c.bs.modify j0 (fun _ => Cnt.zero) } := by
    unfold RC.roll RC.subtract
    simp only [ew, i.len, hj0, Int.toNat_natCast]
  have eage : c.roll.age = c.age + 1 := by rw [e]
  have ebs : c.roll.bs = c.bs.modify j0 (fun _ => Cnt.zero) := by rw [e]
  have gb : ∀ (f : Cnt → Int), f Cnt.zero = 0 → ∀ j : Nat, j < k → f (c.roll.bs.getD j Cnt.zero) = if j = j0 then 0 else f (c.bs.getD j Cnt.zero) := by
    intro f hf j hj
    rw [ebs, getD_modify (by rw [i.len]; exact hj)]
    split
    · exact hf
    · rfl
  refine ⟨⟨by rw [ebs, List.length_modify]; exact i.len, by omega, by omega, fun x hx => by have := i.old x hx; omega, ?_, ?_, ?_⟩, eage⟩
  · exact i.lr.roll hk hh a0 i.old eage hj0 hjk (by rw [e]) (gb Cnt.r rfl)
  · exact i.ls.roll hk hh a0 i.old eage hj0 hjk (by rw [e]) (gb Cnt.s rfl)
  · exact i.lf.roll hk hh a0 i.old eage hj0 hjk (by rw [e]) (gb Cnt.f rfl)

theorem RInv.rolls {k : Nat} {h : List (Int × Bool)} (n : Nat) {c : RC} (i : RInv k h c) (hk : 1 ≤ k) (hh : h.length ≤ 1000000) (ha : c.age + n ≤ 1000000000000000000) : RInv k h (RC.rolls n c) ∧ (RC.rolls n c).age = c.age + n := by
  induction n generalizing c with
  | zero => exact ⟨i, by simp [RC.rolls]⟩
  | succ n ih =>
    obtain ⟨j1, j2⟩ := i.roll hk hh (by omega)
    obtain ⟨k1, k2⟩ := ih j1 (by omega)
    exact ⟨k1, by rw [RC.rolls, k2, j2]; omega⟩

theorem RInv.grow {k : Nat} {h : List (Int × Bool)} {c : RC} (i : RInv k h c) (hk : 1 ≤ k) (hh : h.length ≤ 1000000) {a : Int} (ha : c.age ≤ a) (ha1 : a ≤ 1000000000000000000) : RInv k h (c.grow a) ∧ (c.grow a).age = a := by
  unfold RC.grow
  by_cases h1 : a ≤ c.age
  · rw [if_pos h1]; exact ⟨i, by omega⟩
  · rw [if_neg h1]
    by_cases h2 : (c.bs.length : Int) ≤ a - c.age
    · rw [if_pos h2]
      rw [i.len] at h2
      have z : ∀ (f : Cnt → Int) (q : Bool → Bool), f Cnt.zero = 0 → Line k h { c.clear with age := a } f q := by
        intro f q hf
        have w0 : ∀ x ∈ h, inW k a x = false := fun x hx => by
          have := i.old x hx
          unfold inW; rw [decide_eq_false]; omega
        constructor
        · show f Cnt.zero = _
          rw [hf, cn_zero]
          intro x hx
          show (inW k a x && q x.2) = false
          rw [w0 x hx]; rfl
        · intro j hj
          have : (List.replicate c.bs.length Cnt.zero).getD j Cnt.zero = Cnt.zero := by
            exact getD_zeros _ _
          show f ((List.replicate c.bs.length Cnt.zero).getD j Cnt.zero) = _
          rw [this, hf, cn_zero]
          intro x hx
          show (inS k j x && (inW k a x && q x.2)) = false
          rw [w0 x hx]; simp
      exact ⟨⟨by simp [RC.clear, i.len], by have := i.age0; show 0 ≤ a; omega, ha1, fun x hx => by have := i.old x hx; show x.1 ≤ a; omega, z _ _ rfl, z _ _ rfl, z _ _ rfl⟩, rfl⟩
    · rw [if_neg h2]
      obtain ⟨p, q⟩ := i.rolls (a - c.age).toNat hk hh (by omega)
      exact ⟨p, by omega⟩

theorem Line.call {k : Nat} {h : List (Int × Bool)} {c c' : RC} {f : Cnt → Int} {q : Bool → Bool} (l : Line k h c f q) (hk : 1 ≤ k) (hh : h.length ≤ 1000000) (hlen : c.bs.length = k) (ha : c'.age = c.age) {g : Bool} {K : Cnt → Cnt} (hK : ∀ t, f (K t) = if q g then w32 (f t + 1) else f t)
    {j0 : Nat} (hj : c.age % (k : Int) = (j0 : Int)) (ht : c'.tot = K c.tot) (hb : c'.bs = c.bs.modify j0 K) : Line k (h ++ [(c.age, g)]) c' f q := by
  have w1 : inW k c.age (c.age, g) = true := by unfold inW; rw [decide_eq_true]; dsimp only; omega
  constructor
  · rw [ht, hK, ha, cn_snoc, ← l.tot]
    have n1 := cn_nonneg (fun x => inW k c.age x && q x.2) h
    have n3 := cn_le (fun x => inW k c.age x && q x.2) h
    rw [← l.tot] at n1 n3
    show _ = _ + (if (inW k c.age (c.age, g) && q g) then 1 else 0)
    rw [w1, Bool.true_and]
    split
    · exact roll_u32 (by omega) (by omega)
    · omega
  · intro j hjl
    have n1 := cn_nonneg (fun x => inS k j x && (inW k c.age x && q x.2)) h
    have n3 := cn_le (fun x => inS k j x && (inW k c.age x && q x.2)) h
    rw [← l.bk j hjl] at n1 n3
    rw [hb, getD_modify (by omega), ha, cn_snoc, ← l.bk j hjl]
    show _ = _ + (if (inS k j (c.age, g) && (inW k c.age (c.age, g) && q g)) then 1 else 0)
    rw [w1, Bool.true_and]
    by_cases e : j = j0
    · have s1 : inS k j (c.age, g) = true := by unfold inS; dsimp only; rw [hj, e]; simp
      rw [if_pos e, hK, s1, Bool.true_and]
      split
      · exact roll_u32 (by omega) (by omega)
      · omega
    · have s1 : inS k j (c.age, g) = false := by unfold inS; dsimp only; rw [hj]; simp; omega
      rw [if_neg e, s1]; simp

/-- A request goes and tells its error at once. -/
def RC.call (c : RC) (g : Bool) : RC := c.req.on (if g then Cnt.succ else Cnt.fail) c.age
theorem RC.call_eq (c : RC) (g : Bool) (hp : 0 < c.bs.length) : c.call g = { tot := (if g then Cnt.succ else Cnt.fail) c.tot.req, age := c.age, bs := c.bs.modify (c.age % c.bs.length).toNat (fun x => (if g then Cnt.succ else Cnt.fail) x.req) } := by
  unfold RC.call RC.req RC.on
  dsimp only
  rw [if_neg (by omega), if_pos (by simp; omega), List.length_modify, modify_comp]
theorem RInv.call {k : Nat} {h : List (Int × Bool)} {c : RC} (i : RInv k h c) (hk : 1 ≤ k) (hh : h.length ≤ 1000000) (g : Bool) : RInv k (h ++ [(c.age, g)]) (c.call g) ∧ (c.call g).age = c.age := by
  have a0 := i.age0
  have m1 := Int.emod_nonneg c.age (b := (k : Int)) (by omega)
  obtain ⟨j0, hj0⟩ : ∃ j0 : Nat, c.age % (k : Int) = (j0 : Int) := ⟨(c.age % (k : Int)).toNat, by omega⟩
  have e := RC.call_eq c g (by rw [i.len]; omega)
  rw [i.len, hj0, Int.toNat_natCast] at e
  have eage : (c.call g).age = c.age := by rw [e]
  have etot : (c.call g).tot = (if g then Cnt.succ else Cnt.fail) c.tot.req := by rw [e]
  have ebs : (c.call g).bs = c.bs.modify j0 (fun x => (if g then Cnt.succ else Cnt.fail) x.req) := by rw [e]
  refine ⟨⟨by rw [ebs, List.length_modify]; exact i.len, by omega, by have := i.age1; omega, ?_, ?_, ?_, ?_⟩, eage⟩
  · intro x hx
    rw [List.mem_append] at hx
    rw [eage]
    rcases hx with hx | hx
    · exact i.old x hx
    · simp at hx; rw [hx]; exact Int.le_refl _
  · exact i.lr.call hk hh i.len eage (K := fun x => (if g then Cnt.succ else Cnt.fail) x.req) (fun t => by cases g <;> rfl) hj0 etot ebs
  · exact i.ls.call hk hh i.len eage (K := fun x => (if g then Cnt.succ else Cnt.fail) x.req) (fun t => by cases g <;> rfl) hj0 etot ebs
  · exact i.lf.call hk hh i.len eage (K := fun x => (if g then Cnt.succ else Cnt.fail) x.req) (fun t => by cases g <;> rfl) hj0 etot ebs
theorem RInv.start (k : Nat) : RInv k [] ⟨Cnt.zero, 0, List.replicate k Cnt.zero⟩ := by
  have z : ∀ (f : Cnt → Int) (q : Bool → Bool), f Cnt.zero = 0 → Line k [] ⟨Cnt.zero, 0, List.replicate k Cnt.zero⟩ f q := by
    intro f q hf
    constructor
    · exact hf
    · intro j hj
      have : (List.replicate k Cnt.zero).getD j Cnt.zero = Cnt.zero := by
        exact getD_zeros _ _
      show f ((List.replicate k Cnt.zero).getD j Cnt.zero) = _
      rw [this, hf]; rfl
  exact ⟨by simp, Int.le_refl _, by show (0 : Int) ≤ _; omega, by simp, z _ _ rfl, z _ _ rfl, z _ _ rfl⟩

end Go.Proofs.Ytcjklacfoldaoaa

/- The end of subtract: four numbers are taken off. Condition: the counts and a copy of the bucket lie in their blocks. -/
namespace Go.Proofs.Ytcjklacfoldaoaa
open Go.RowKit
attribute [local go_sem ↓] Go.wp_at_zero Go.wp_at_succ

def cntCells (b : Cnt) : Array Value := #[.int .u32 b.r, .int .u32 b.s, .int .u32 b.f, .int .u32 b.x, .int .u32 b.g, .int .u32 b.h]
/-- Where everything lies within subtract: the counts, and the copy b of a bucket in block bb. -/
structure SubSt (w0 wx : World) (rc bk bb : Nat) (c : RC) (t b : Cnt) : Prop where
  cnts : RCat wx rc bk { c with tot := t }
  at_ : wx.heap[bb]? = some (.cells (cntCells b) 98 (0, 0))
  mod : Mod [rc, bk] w0 wx
  rk : rc ≠ bk
  rb : rc ≠ bb
  kb : bk ≠ bb
section
variable {w0 wx : World} {rc bk bb : Nat} {c : RC} {t t' b : Cnt}
theorem SubSt.set (h : SubSt w0 wx rc bk bb c t b) {i : Nat} (hi : i < 6) {v : Value} (hk : t'.arr = t.arr.set i v) : SubSt w0 (wx.setCell ⟨rc, i, none⟩ v) rc bk bb c t' b :=
  ⟨h.cnts.setTot (c := { c with tot := t }) h.rk hi v t' hk, heap_set_other h.at_ (by simpa using h.rb.symm), h.mod.setCell _ _ (by simp), h.rk, h.rb, h.kb⟩
theorem SubSt.drew (h : SubSt w0 wx rc bk bb c t b) : SubSt w0 wx.drew rc bk bb c t b := ⟨⟨h.cnts.1, h.cnts.2⟩, h.at_, h.mod.drew, h.rk, h.rb, h.kb⟩
theorem SubSt.drewN (h : SubSt w0 wx rc bk bb c t b) (n : Nat) : SubSt w0 (wx.drewN n) rc bk bb c t b := ⟨⟨h.cnts.1, h.cnts.2⟩, h.at_, h.mod.drewN n, h.rk, h.rb, h.kb⟩
theorem SubSt.cells (h : SubSt w0 wx rc bk bb c t b) : (∀ i, wx.cell? ⟨rc, i, none⟩ = #[.int .u32 t.r, .int .u32 t.s, .int .u32 t.f, .int .u32 t.x, .int .u32 t.g, .int .u32 t.h, .int .u64 c.age, .slice (some ⟨bk, 0, none⟩) c.bs.length c.bs.length][i]?) ∧ (∀ i, wx.frozen? ⟨rc, i, none⟩ = false) ∧ (∀ i, wx.cell? ⟨bb, i, none⟩ = #[.int .u32 b.r, .int .u32 b.s, .int .u32 b.f, .int .u32 b.x, .int .u32 b.g, .int .u32 b.h][i]?) :=
  ⟨blk_cell h.cnts.1, blk_free h.cnts.1, blk_cell h.at_⟩
end


def leftmost : Code → Nat
  | .seq a _ => leftmost a
  | .region n _ _ => n
  | _ => 1000000
def codeFrom (n : Nat) : Code → Code
  | .seq a b => if leftmost a = n then .seq a b else codeFrom n b
  | c => c

set_option maxRecDepth 100000 in
set_option maxHeartbeats 8000000 in
theorem rcSub_tail (w wc : World) (rc bk bb : Nat) (c d : RC) (t2 b : Cnt) (u1 u2 u3 u4 u6 u7 u8 u9 u10 u11 u12 u13 u14 u15 u16 u17 u18 u19 u20 u21 u22 u23 u24 u25 u26 u27 u28 u29 u30 u31 u32 u33 u34 u35 u36 u37 u38 u39 u40 u41 u42 u43 u44 u45 u46 u47 u48 u49 u50 u51 u52 u53 u54 u55 u56 u57 u58 u59 u60 u61 u62 u63 u64 u65 u66 u67 u68 u69 u70 u71 u72 u73 u74 u75 u76 u77 u78 u79 u80 u81 u82 u83 u84 u85 u86 u87 u88 u89 u90 u91 u92 u93 u94 u95 u96 u97 u98 u99 u100 u101 u102 u103 u104 u105 u106 u107 u108 u109 u110 u111 u112 u113 u114 u115 u116 u117 u118 u119 u120 u121 u122 u123 u124 u125 u126 u127 u128 u129 u130 u131 u132 u133 u134 u135 u136 u137 u138 u139 u140 u141 u142 u143 u144 u145 u146 u147 u148 u149 u150 u151 u152 u153 u154 u155 u156 u157 u158 u159 u160 u161 u162 u163 u164 u165 u166 u167 u168 u169 u170 u171 u172 u173 u174 u175 u176 u177 u178 u179 u180 u181 u182 u183 u184 u185 u186 u187 u188 u189 u190 u191 u192 u193 u194 u195 u196 u197 u198 u199 u200 u201 u202 u203 u204 u205 u206 u207 u208 u209 u210 u211 u212 u213 u214 u215 u216 u217 u218 u219 u220 u221 u222 u223 u224 u225 : Value) (hS : SubSt w wc rc bk bb c t2 b) (hd : d = { c with tot := { t2 with r := RC.less t2.r b.r, s := RC.less t2.s b.s, f := RC.less t2.f b.f, x := RC.less t2.x b.x } }) :
    Code.wp Try.prog (codeFrom 24 (Try.f113.body.getD .skip)) (bodyPost Try.prog Try.f113 fun e w' => e = .returned (.tuple #[]) ∧ RCat w' rc bk d ∧ Mod [rc, bk] w w') { tmps := List.toArray (Value.pointer (some ⟨rc, 0, none⟩) :: u1 :: u2 :: u3 :: u4 :: Value.pointer (some ⟨bb, 0, none⟩) :: u6 :: u7 :: u8 :: u9 :: u10 :: u11 :: u12 :: u13 :: u14 :: u15 :: u16 :: u17 :: u18 :: u19 :: u20 :: u21 :: u22 :: u23 :: u24 :: u25 :: u26 :: u27 :: u28 :: u29 :: u30 :: u31 :: u32 :: u33 :: u34 :: u35 :: u36 :: u37 :: u38 :: u39 :: u40 :: u41 :: u42 :: u43 :: u44 :: u45 :: u46 :: u47 :: u48 :: u49 :: u50 :: u51 :: u52 :: u53 :: u54 :: u55 :: u56 :: u57 :: u58 :: u59 :: u60 :: u61 :: u62 :: u63 :: u64 :: u65 :: u66 :: u67 :: u68 :: u69 :: u70 :: u71 :: u72 :: u73 :: u74 :: u75 :: u76 :: u77 :: u78 :: u79 :: u80 :: u81 :: u82 :: u83 :: u84 :: u85 :: u86 :: u87 :: u88 :: u89 :: u90 :: u91 :: u92 :: u93 :: u94 :: u95 :: u96 :: u97 :: u98 :: u99 :: u100 :: u101 :: u102 :: u103 :: u104 :: u105 :: u106 :: u107 :: u108 :: u109 :: u110 :: u111 :: u112 :: u113 :: u114 :: u115 :: u116 :: u117 :: u118 :: u119 :: u120 :: u121 :: u122 :: u123 :: u124 :: u125 :: u126 :: u127 :: u128 :: u129 :: u130 :: u131 :: u132 :: u133 :: u134 :: u135 :: u136 :: u137 :: u138 :: u139 :: u140 :: u141 :: u142 :: u143 :: u144 :: u145 :: u146 :: u147 :: u148 :: u149 :: u150 :: u151 :: u152 :: u153 :: u154 :: u155 :: u156 :: u157 :: u158 :: u159 :: u160 :: u161 :: u162 :: u163 :: u164 :: u165 :: u166 :: u167 :: u168 :: u169 :: u170 :: u171 :: u172 :: u173 :: u174 :: u175 :: u176 :: u177 :: u178 :: u179 :: u180 :: u181 :: u182 :: u183 :: u184 :: u185 :: u186 :: u187 :: u188 :: u189 :: u190 :: u191 :: u192 :: u193 :: u194 :: u195 :: u196 :: u197 :: u198 :: u199 :: u200 :: u201 :: u202 :: u203 :: u204 :: u205 :: u206 :: u207 :: u208 :: u209 :: u210 :: u211 :: u212 :: u213 :: u214 :: u215 :: u216 :: u217 :: u218 :: u219 :: u220 :: u221 :: u222 :: u223 :: u224 :: u225 :: []), defers := [] } wc := by
  have St2 := Lib.hid hS
  have HD := Lib.hid hd
  clear hS hd
  refine (show Code.wp Try.prog (Code.seq _ _) _ _ _ from ?_)

  obtain ⟨t3, ht3⟩ : ∃ t3 : Cnt, t3 = { t2 with r := RC.less t2.r b.r } := ⟨_, rfl⟩
  have Et3 := Lib.hid ht3
  clear ht3
  obtain ⟨hc, hf, hd⟩ := St2.out.cells
  have gc := hc 0
  have gf := hf 0
  have gd := hd 0
  simp at gc gd
  clear hc hf hd
  go_wp2_with fail
  go_quiet (fail)
  go_upto_if 141 with fail
  go_cut [] (fun wx => SubSt w wx rc bk bb c t3 b)
  case first =>
    by_cases hlt : b.r < t2.r
    · have EL := Lib.hid (show RC.less t2.r b.r = w32 (t2.r - b.r) by unfold RC.less; rw [if_pos hlt])
      go_wp2_with fail
      go_region
      go_wp2_with fail
      go_meet
      refine ((St2.out.drewN _).drew.set (i := 0) (by omega) ?_)
      rw [Et3.out, EL.out]; rfl
    · have EL := Lib.hid (show RC.less t2.r b.r = 0 by unfold RC.less; rw [if_neg hlt])
      go_wp2_with fail
      go_meet
      refine ((St2.out.drewN _).set (i := 0) (by omega) ?_)
      rw [Et3.out, EL.out]; rfl
  case rest =>
  have St3 := Lib.hid hcut
  clear hcut gc gf gd
  obtain ⟨t4, ht4⟩ : ∃ t4 : Cnt, t4 = { t3 with s := RC.less t3.s b.s } := ⟨_, rfl⟩
  have Et4 := Lib.hid ht4
  clear ht4
  obtain ⟨hc, hf, hd⟩ := St3.out.cells
  have gc := hc 1
  have gf := hf 1
  have gd := hd 1
  simp at gc gd
  clear hc hf hd
  go_wp2_with fail
  go_quiet (fail)
  go_upto_if 164 with fail
  go_cut [] (fun wx => SubSt w wx rc bk bb c t4 b)
  case first =>
    by_cases hlt : b.s < t3.s
    · have EL := Lib.hid (show RC.less t3.s b.s = w32 (t3.s - b.s) by unfold RC.less; rw [if_pos hlt])
      go_wp2_with fail
      go_region
      go_wp2_with fail
      go_meet
      refine ((St3.out.drewN _).drew.set (i := 1) (by omega) ?_)
      rw [Et4.out, EL.out]; rfl
    · have EL := Lib.hid (show RC.less t3.s b.s = 0 by unfold RC.less; rw [if_neg hlt])
      go_wp2_with fail
      go_meet
      refine ((St3.out.drewN _).set (i := 1) (by omega) ?_)
      rw [Et4.out, EL.out]; rfl
  case rest =>
  have St4 := Lib.hid hcut
  clear hcut gc gf gd
  obtain ⟨t5, ht5⟩ : ∃ t5 : Cnt, t5 = { t4 with f := RC.less t4.f b.f } := ⟨_, rfl⟩
  have Et5 := Lib.hid ht5
  clear ht5
  obtain ⟨hc, hf, hd⟩ := St4.out.cells
  have gc := hc 2
  have gf := hf 2
  have gd := hd 2
  simp at gc gd
  clear hc hf hd
  go_wp2_with fail
  go_quiet (fail)
  go_upto_if 187 with fail
  go_cut [] (fun wx => SubSt w wx rc bk bb c t5 b)
  case first =>
    by_cases hlt : b.f < t4.f
    · have EL := Lib.hid (show RC.less t4.f b.f = w32 (t4.f - b.f) by unfold RC.less; rw [if_pos hlt])
      go_wp2_with fail
      go_region
      go_wp2_with fail
      go_meet
      refine ((St4.out.drewN _).drew.set (i := 2) (by omega) ?_)
      rw [Et5.out, EL.out]; rfl
    · have EL := Lib.hid (show RC.less t4.f b.f = 0 by unfold RC.less; rw [if_neg hlt])
      go_wp2_with fail
      go_meet
      refine ((St4.out.drewN _).set (i := 2) (by omega) ?_)
      rw [Et5.out, EL.out]; rfl
  case rest =>
  have St5 := Lib.hid hcut
  clear hcut gc gf gd
  obtain ⟨t6, ht6⟩ : ∃ t6 : Cnt, t6 = { t5 with x := RC.less t5.x b.x } := ⟨_, rfl⟩
  have e : d = { c with tot := t6 } := by
    rw [ht6, Et5.out, Et4.out, Et3.out]
    exact HD.out
  have ES := Lib.hid e
  clear e
  obtain ⟨hc, hf, hd⟩ := St5.out.cells
  have gc := hc 3
  have gf := hf 3
  have gd := hd 3
  simp at gc gd
  clear hc hf hd
  have EX6 := Lib.hid (show t6.x = RC.less t5.x b.x by rw [ht6])
  have ET := Lib.hid (show t6.arr = t5.arr.set 3 (.int .u32 t6.x) by rw [ht6]; rfl)
  clear ht6
  go_wp2_with fail
  go_quiet (fail)
  by_cases hlt : b.x < t5.x
  · have EL := Lib.hid (show t6.x = w32 (t5.x - b.x) by rw [EX6.out]; unfold RC.less; rw [if_pos hlt])
    go_wp2_with fail
    go_region
    go_wp2_with fail
    go_end0
    have q := ((St5.out.drewN nq).drew.set (t' := t6) (i := 3) (by omega) ET.out)
    refine ⟨rfl, ?_, ?_⟩
    · rw [ES.out]
      have q1 := q.cnts
      rw [EL.out] at q1
      exact q1
    · have q1 := q.mod
      rw [EL.out] at q1
      exact q1
  · have EL := Lib.hid (show t6.x = 0 by rw [EX6.out]; unfold RC.less; rw [if_neg hlt])
    go_wp2_with fail
    go_end0
    have q := ((St5.out.drewN nq).set (t' := t6) (i := 3) (by omega) ET.out)
    refine ⟨rfl, ?_, ?_⟩
    · rw [ES.out]
      have q1 := q.cnts
      rw [EL.out] at q1
      exact q1
    · have q1 := q.mod
      rw [EL.out] at q1
      exact q1

end Go.Proofs.Ytcjklacfoldaoaa

/- Contracts of subtract, roll and grow of the rolling counts. Conditions: two blocks hold them, at least one bucket and not too many. -/
namespace Go.Proofs.Ytcjklacfoldaoaa
open Go.RowKit
attribute [local go_sem ↓] Go.wp_at_zero Go.wp_at_succ

theorem subSum_succ (bs : List Cnt) (k : Nat) (f : Cnt → Int) (init : Int) (m : Nat) : RC.subSum bs k f init (m + 1) = w32 (RC.subSum bs k f init m + f (bs.getD ((k + 1 + m) % bs.length) Cnt.zero)) := by
  unfold RC.subSum
  rw [List.range_succ, List.foldl_append]
  rfl
theorem sub_slot {n k m : Nat} (hk : k < n) (hm : m + 1 < n) (hn : n ≤ 1000000) : ∃ j : Nat, (k + 1 + m) % n = j ∧ j < n ∧ IntKind.u64.wrap ((k : Int) + ((m : Int) + 1)) = ((k : Int) + ((m : Int) + 1)) ∧ ((k : Int) + ((m : Int) + 1)) % (n : Int) = (j : Int) := by
  refine ⟨(k + 1 + m) % n, rfl, Nat.mod_lt _ (by omega), ?_, ?_⟩
  · show ((k : Int) + ((m : Int) + 1)) % 18446744073709551616 = _
    omega
  · rw [show ((k : Int) + ((m : Int) + 1)) = ((k + 1 + m : Nat) : Int) by omega]; rfl
theorem wrap64 {n : Int} (h0 : 0 ≤ n) (h1 : n ≤ 9000000000000000000) : IntKind.u64.wrap n = n := by
  show n % 18446744073709551616 = n
  omega

set_option maxRecDepth 100000 in
set_option maxHeartbeats 8000000 in
theorem rcSub_any (rc bk : Nat) (c : RC) (k : Nat) (w : World) (h : RCat w rc bk c) (hne : rc ≠ bk) (hk : k < c.bs.length) (few : c.bs.length ≤ 1000000) :
    Calls Try.prog 113 #[.pointer (some ⟨rc, 0, none⟩), .int .u64 (k : Int)] w fun e w' => e = .returned (.tuple #[]) ∧ RCat w' rc bk (c.subtract k) ∧ Mod [rc, bk] w w' := by
  have H := Lib.hid h
  obtain ⟨hc, hf⟩ := h.cells
  obtain ⟨hb, hbf⟩ := h.buck hk
  have g7 := hc 7
  simp at g7
  obtain ⟨b, hbb⟩ : ∃ b, b = c.bs[k] := ⟨_, rfl⟩
  have EB := Lib.hid hbb
  rw [← hbb] at hb
  have b0 := hb 0 (by omega)
  have b1 := hb 1 (by omega)
  have b2 := hb 2 (by omega)
  have b3 := hb 3 (by omega)
  have b4 := hb 4 (by omega)
  have b5 := hb 5 (by omega)
  simp only [Cnt.arr, Nat.add_zero, List.getElem?_cons_zero, List.getElem?_cons_succ] at b0 b1 b2 b3 b4 b5
  have z1 := size_of_heap h.1
  have z2 := size_of_heap h.2
  have i1 : (0 : Int) ≤ (k : Int) := by omega
  have i2 : (k : Int) < (c.bs.length : Int) := by omega
  have i3 : (c.bs.length : Int) ≤ 1000000 := by omega
  have i4 : ((c.bs.length : Int) == 0) = false := by rw [beq_eq_false_iff_ne]; omega
  have i5 : (k : Int) % (c.bs.length : Int) = (k : Int) := Int.emod_eq_of_lt i1 i2
  have i6 : IntKind.u64.wrap (c.bs.length : Int) = (c.bs.length : Int) := wrap64 (by omega) (by omega)
  clear h hc hf hb hbf hbb
  go_enter Try.func113, Try.ntmps113

  go_upto_region 2 with fail
  go_cut [1] (fun s1 wx => s1 = Value.int IntKind.u64 (k : Int) ∧ w = wx)
  case first =>
    go_wp2_with fail
    go_meet
    exact ⟨by first | rfl | rw [i5], rfl⟩
  case rest =>
  obtain ⟨rfl, rfl⟩ := hcut
  go_wp2_with fail
  have S1 := Lib.hid (show SubSt w (w.alloc (Obj.cells (cntCells b) 98)) rc bk w.heap.size c c.tot b from ⟨⟨heap_alloc_lt H.out.1, heap_alloc_lt H.out.2⟩, heap_alloc_new w _, ((Mod.refl [rc, bk] w).alloc _), hne, by omega, by omega⟩)
  unfold cntCells at S1
  obtain ⟨bb, hbb⟩ : ∃ bb, bb = w.heap.size := ⟨_, rfl⟩
  rw [← hbb] at S1
  rw [← hbb]
  clear b0 b1 b2 b3 b4 b5 g7 z1 z2 H hbb
  generalize (w.alloc (Obj.cells #[Value.int IntKind.u32 b.r, Value.int IntKind.u32 b.s, Value.int IntKind.u32 b.f, Value.int IntKind.u32 b.x, Value.int IntKind.u32 b.g, Value.int IntKind.u32 b.h] 98)) = W1 at *
  obtain ⟨hc, hf, hd⟩ := S1.out.cells
  have g7 := hc 7
  have d4 := hd 4
  simp at g7 d4
  have g4 := hc 4
  simp at g4
  clear hc hf hd

  go_loopg [6, 7] c.bs.length (fun g sA sB wx => ∃ m : Nat, g = c.bs.length - m ∧ m + 1 ≤ c.bs.length ∧ sA = .int .u32 (RC.subSum c.bs k Cnt.s b.g m) ∧ sB = .int .u64 ((m : Int) + 1) ∧ wx = W1)
  case atStart => exact ⟨0, rfl, by omega, rfl, rfl, rfl⟩
  case round =>
    obtain ⟨m, rfl, hm, rfl, rfl, rfl⟩ := hrel
    by_cases hmn : m + 1 < c.bs.length
    · have hmz : (m : Int) + 1 < (c.bs.length : Int) := by omega
      obtain ⟨j, hj, hjl, e1, e2⟩ := sub_slot hk hmn few
      have HS := Lib.hid (subSum_succ c.bs k Cnt.s b.g m)
      rw [hj] at HS
      have e3 : IntKind.u64.wrap ((m : Int) + 1 + 1) = (m : Int) + 1 + 1 := wrap64 (by omega) (by omega)
      have j0 : (0 : Int) ≤ (j : Int) := by omega
      have j1 : (j : Int) < (c.bs.length : Int) := by omega
      obtain ⟨hb, _⟩ := S1.out.cnts.buck (j := j) hjl
      have bj := hb 1 (by omega)
      simp only [Cnt.arr, List.getElem?_cons_zero, List.getElem?_cons_succ] at bj
      have EJ := Lib.hid (show c.bs.getD j Cnt.zero = c.bs[j] by simp [List.getD, hjl])
      rw [EJ.out] at HS
      clear hb hj
      go_wp2_with fail
      go_roundg (c.bs.length - (m + 1))
      case measure => omega
      case rel => exact ⟨m + 1, rfl, hmn, by rw [HS.out]; rfl, by first | rfl | (simp; done) | (simp; omega), rfl⟩
    · have hmz : ¬ ((m : Int) + 1 < (c.bs.length : Int)) := by omega
      have hme : m = c.bs.length - 1 := by omega
      obtain ⟨X, hX⟩ : ∃ X, X = RC.subSum c.bs k Cnt.s b.g m := ⟨_, rfl⟩
      have EX1 := Lib.hid (hX.trans (by rw [hme]) : X = RC.subSum c.bs k Cnt.s b.g (c.bs.length - 1))
      rw [← hX]
      clear hX hme hm hmn
      obtain ⟨t1, ht1⟩ : ∃ t1 : Cnt, t1 = { c.tot with g := if c.tot.g = X then RC.less c.tot.g b.g else c.tot.g } := ⟨_, rfl⟩
      have Et1 := Lib.hid ht1
      clear ht1
      go_upto_if 58 with fail
      go_cut [] (fun wx => SubSt w wx rc bk bb c t1 b)
      case first =>
        by_cases heq : c.tot.g = X
        · have heb : (c.tot.g == X) = true := by simpa using heq
          have EQ := Lib.hid heq
          clear heq
          go_wp2_with fail
          obtain ⟨hc, hf, hd⟩ := S1.out.cells
          have gc := hc 4
          have gf := hf 4
          have gd := hd 4
          simp at gc gd
          clear hc hf hd
          by_cases hlt : b.g < c.tot.g
          · have EL := Lib.hid (show RC.less c.tot.g b.g = w32 (c.tot.g - b.g) by unfold RC.less; rw [if_pos hlt])
            go_quiet (fail)
            go_wp2_with fail
            go_region
            go_wp2_with fail
            go_meet
            refine ((S1.out.drewN _).drew.set (i := 4) (by omega) ?_)
            rw [Et1.out, if_pos EQ.out, EL.out]; rfl
          · have EL := Lib.hid (show RC.less c.tot.g b.g = 0 by unfold RC.less; rw [if_neg hlt])
            go_quiet (fail)
            go_wp2_with fail
            go_meet
            refine ((S1.out.drewN _).set (i := 4) (by omega) ?_)
            rw [Et1.out, if_pos EQ.out, EL.out]; rfl
        · have heb : (c.tot.g == X) = false := by simpa using heq
          have EQ := Lib.hid heq
          clear heq
          go_wp2_with fail
          go_meet
          have e : t1 = c.tot := by rw [Et1.out, if_neg EQ.out]
          rw [e]
          exact S1.out
      case rest =>
      have St1 := Lib.hid hcut
      clear hcut
      obtain ⟨hc, hf, hd⟩ := St1.out.cells
      have g7 := hc 7
      have d5 := hd 5
      have g5 := hc 5
      simp at g7 d5 g5
      clear hc hf hd
      clear d4 g4
      go_wp2_with fail
      go_loopg [9, 10] c.bs.length (fun g sA sB wx => ∃ m : Nat, g = c.bs.length - m ∧ m + 1 ≤ c.bs.length ∧ sA = .int .u32 (RC.subSum c.bs k Cnt.f b.h m) ∧ sB = .int .u64 ((m : Int) + 1) ∧ wx = wc)
      case atStart => exact ⟨0, rfl, by omega, rfl, rfl, rfl⟩
      case round =>
        obtain ⟨m, rfl, hm, rfl, rfl, rfl⟩ := hrel
        by_cases hmn : m + 1 < c.bs.length
        · have hmz : (m : Int) + 1 < (c.bs.length : Int) := by omega
          obtain ⟨j, hj, hjl, e1, e2⟩ := sub_slot hk hmn few
          have HS := Lib.hid (subSum_succ c.bs k Cnt.f b.h m)
          rw [hj] at HS
          have e3 : IntKind.u64.wrap ((m : Int) + 1 + 1) = (m : Int) + 1 + 1 := wrap64 (by omega) (by omega)
          have j0 : (0 : Int) ≤ (j : Int) := by omega
          have j1 : (j : Int) < (c.bs.length : Int) := by omega
          obtain ⟨hb, _⟩ := St1.out.cnts.buck (j := j) hjl
          have bj := hb 2 (by omega)
          simp only [Cnt.arr, List.getElem?_cons_zero, List.getElem?_cons_succ] at bj
          have EJ := Lib.hid (show c.bs.getD j Cnt.zero = c.bs[j] by simp [List.getD, hjl])
          rw [EJ.out] at HS
          clear hb hj
          go_wp2_with fail
          go_roundg (c.bs.length - (m + 1))
          case measure => omega
          case rel => exact ⟨m + 1, rfl, hmn, by rw [HS.out]; rfl, by first | rfl | (simp; done) | (simp; omega), rfl⟩
        · have hmz : ¬ ((m : Int) + 1 < (c.bs.length : Int)) := by omega
          have hme : m = c.bs.length - 1 := by omega
          obtain ⟨X, hX⟩ : ∃ X, X = RC.subSum c.bs k Cnt.f b.h m := ⟨_, rfl⟩
          have EX2 := Lib.hid (hX.trans (by rw [hme]) : X = RC.subSum c.bs k Cnt.f b.h (c.bs.length - 1))
          rw [← hX]
          clear hX hme hm hmn
          obtain ⟨t2, ht2⟩ : ∃ t2 : Cnt, t2 = { t1 with h := if t1.h = X then RC.less t1.h b.h else t1.h } := ⟨_, rfl⟩
          have Et2 := Lib.hid ht2
          clear ht2
          go_upto_if 110 with fail
          go_cut [] (fun wx => SubSt w wx rc bk bb c t2 b)
          case first =>
            by_cases heq : t1.h = X
            · have heb : (t1.h == X) = true := by simpa using heq
              have EQ := Lib.hid heq
              clear heq
              go_wp2_with fail
              obtain ⟨hc, hf, hd⟩ := St1.out.cells
              have gc := hc 5
              have gf := hf 5
              have gd := hd 5
              simp at gc gd
              clear hc hf hd
              by_cases hlt : b.h < t1.h
              · have EL := Lib.hid (show RC.less t1.h b.h = w32 (t1.h - b.h) by unfold RC.less; rw [if_pos hlt])
                go_quiet (fail)
                go_wp2_with fail
                go_region
                go_wp2_with fail
                go_meet
                refine ((St1.out.drewN _).drew.set (i := 5) (by omega) ?_)
                rw [Et2.out, if_pos EQ.out, EL.out]; rfl
              · have EL := Lib.hid (show RC.less t1.h b.h = 0 by unfold RC.less; rw [if_neg hlt])
                go_quiet (fail)
                go_wp2_with fail
                go_meet
                refine ((St1.out.drewN _).set (i := 5) (by omega) ?_)
                rw [Et2.out, if_pos EQ.out, EL.out]; rfl
            · have heb : (t1.h == X) = false := by simpa using heq
              have EQ := Lib.hid heq
              clear heq
              go_wp2_with fail
              go_meet
              have e : t2 = t1 := by rw [Et2.out, if_neg EQ.out]
              rw [e]
              exact St1.out
          case rest =>
          have St2 := Lib.hid hcut
          clear hcut
          apply_assumption
          refine rcSub_tail w wc rc bk bb c (c.subtract k) t2 b _ _ _ _ _ _ _ _ _ _ _ _ _ _ _ _ _ _ _ _ _ _ _ _ _ _ _ _ _ _ _ _ _ _ _ _ _ _ _ _ _ _ _ _ _ _ _ _ _ _ _ _ _ _ _ _ _ _ _ _ _ _ _ _ _ _ _ _ _ _ _ _ _ _ _ _ _ _ _ _ _ _ _ _ _ _ _ _ _ _ _ _ _ _ _ _ _ _ _ _ _ _ _ _ _ _ _ _ _ _ _ _ _ _ _ _ _ _ _ _ _ _ _ _ _ _ _ _ _ _ _ _ _ _ _ _ _ _ _ _ _ _ _ _ _ _ _ _ _ _ _ _ _ _ _ _ _ _ _ _ _ _ _ _ _ _ _ _ _ _ _ _ _ _ _ _ _ _ _ _ _ _ _ _ _ _ _ _ _ _ _ _ _ _ _ _ _ _ _ _ _ _ _ _ _ _ _ _ _ _ _ _ _ _ _ _ _ _ _ _ _ _ _ _ St2.out ?_
          rw [Et2.out, Et1.out, EX1.out, EX2.out]
          unfold RC.subtract
          rw [show c.bs.getD k Cnt.zero = b by rw [EB.out]; simp [List.getD, hk]]


end Go.Proofs.Ytcjklacfoldaoaa
