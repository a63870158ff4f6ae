/- Two scripts whose times are alike are answered alike; what is true of the statements' breaker at all times. Conditions: the rules count alike, and their times are alike by a factor. -/
import Derived.Test.YtcjklacfoldaoaaLaw
namespace Go.Proofs.Ytcjklacfoldaoaa
open Go.RowKit

def timS (r : Rules) : Int := if r.timeout ≤ 0 then 60000000000 else r.timeout
/-- Rules that count alike, whose times are greater by a factor. -/
structure Alike (k : Int) (r r' : Rules) : Prop where
  k0 : 0 < k
  int0 : 0 < r'.interval ↔ 0 < r.interval
  int1 : 0 < r.interval → r'.interval = k * r.interval
  tim : timS r' = k * timS r
  most : mostS r' = mostS r
  trip : ∀ c, tripB r' c = tripB r c
  good : ∀ e, 0 ≤ e → e ≤ 6 → goodB r' e = goodB r e
  out : ∀ e, 0 ≤ e → e ≤ 6 → outB r' e = outB r e

structure ASame (k o : Int) (s s' : SB) : Prop where
  state : s'.state = s.state
  cnt : s'.cnt = s.cnt
  cleared : s'.cleared = s.cleared
  timed : s'.timed = s.timed
  fin : s.timed = true → s'.fin = k * s.fin + o
  chs : s'.chs = s.chs
  opn : s'.opn = s.opn

theorem ASame.clear {k o : Int} {r r' : Rules} {s s' : SB} (al : Alike k r r') (h : ASame k o s s') (now : Int) : ASame k o (SB.clear r now s) (SB.clear r' (k * now + o) s') := by
  refine ⟨h.state, rfl, ?_, ?_, ?_, h.chs, h.opn⟩
  · show w64u (s'.cleared + 1) = w64u (s.cleared + 1)
    rw [h.cleared]
  · unfold SB.clear
    dsimp only
    rw [h.state]
    split
    · have := al.int0
      by_cases hi : 0 < r.interval
      · rw [decide_eq_true hi, decide_eq_true (this.2 hi)]
      · rw [decide_eq_false hi, decide_eq_false (fun x => hi (this.1 x))]
    · rfl
  · intro ht
    unfold SB.clear at ht ⊢
    dsimp only at ht ⊢
    rw [h.state]
    by_cases h0 : s.state = 0
    · rw [if_pos h0] at ht
      rw [if_pos h0, if_pos h0]
      have hi : 0 < r.interval := by simpa using ht
      rw [al.int1 hi, Int.mul_add]
      omega
    · rw [if_neg h0] at ht
      rw [if_neg h0, if_neg h0]
      by_cases h2 : s.state = 2
      · rw [if_pos h2, if_pos h2]
        have e : ∀ (x : Rules) (n : Int), (if x.timeout ≤ 0 then n + 60000000000 else n + x.timeout) = n + timS x := by
          intro x n; unfold timS; split <;> rfl
        rw [e, e, al.tim, Int.mul_add]
        omega
      · rw [if_neg h2] at ht; cases ht
theorem ASame.set {k o : Int} {r r' : Rules} {s s' : SB} (al : Alike k r r') (h : ASame k o s s') (st now : Int) : ASame k o (SB.set r st now s) (SB.set r' st (k * now + o) s') :=
  ASame.clear (s := { s with chs := s.chs ++ [(s.state, st)], state := st }) (s' := { s' with chs := s'.chs ++ [(s'.state, st)], state := st }) al
    ⟨rfl, h.cnt, h.cleared, h.timed, h.fin, by show s'.chs ++ [(s'.state, st)] = s.chs ++ [(s.state, st)]; rw [h.chs, h.state], h.opn⟩ now
theorem ASame.look {k o : Int} {r r' : Rules} {s s' : SB} (al : Alike k r r') (h : ASame k o s s') (now : Int) : ASame k o (s.look r now) (s'.look r' (k * now + o)) := by
  have k0 := al.k0
  unfold SB.look
  by_cases ht : s.timed = false
  · rw [if_pos ht, if_pos (h.timed.trans ht)]; exact h
  · rw [if_neg ht, if_neg (fun x => ht (h.timed.symm.trans x))]
    have hf := h.fin (by simpa using ht)
    have hle : (k * now + o ≤ s'.fin) ↔ now ≤ s.fin := by
      rw [hf]
      constructor
      · intro x; exact Int.le_of_mul_le_mul_left (by omega) k0
      · intro x; have := Int.mul_le_mul_of_nonneg_left x (Int.le_of_lt k0); omega
    have heq : (k * now + o == s'.fin) = (now == s.fin) := by
      rw [hf]
      by_cases hx : now = s.fin
      · rw [hx, beq_self_eq_true, beq_self_eq_true]
      · have : ¬ (k * now + o = k * s.fin + o) := fun x => hx (Int.eq_of_mul_eq_mul_left (by omega) (show k * now = k * s.fin by omega))
        rw [beq_eq_false_iff_ne.2 this, beq_eq_false_iff_ne.2 hx]
    have h' : ASame k o { s with opn := s.opn || (now == s.fin) } { s' with opn := s'.opn || (k * now + o == s'.fin) } := ⟨h.state, h.cnt, h.cleared, h.timed, h.fin, h.chs, by dsimp only; rw [heq, h.opn]⟩
    by_cases hl : now ≤ s.fin
    · rw [if_pos hl, if_pos (hle.2 hl)]; exact h'
    · rw [if_neg hl, if_neg (fun x => hl (hle.1 x))]
      by_cases hs : s.state = 0
      · rw [if_pos hs, if_pos (h.state.trans hs)]; exact ASame.clear al h' now
      · rw [if_neg hs, if_neg (fun x => hs (h.state.symm.trans x))]; exact ASame.set al h' 1 now
theorem ASame.put {k o : Int} {s s' : SB} (h : ASame k o s s') (f : Cnt → Cnt) : ASame k o { s with cnt := f s.cnt } { s' with cnt := f s'.cnt } := ⟨h.state, by dsimp only; rw [h.cnt], h.cleared, h.timed, h.fin, h.chs, h.opn⟩
theorem ASame.allow {k o : Int} {r r' : Rules} {s s' : SB} (al : Alike k r r') (h : ASame k o s s') : ASame k o (s.allow1 r) (s'.allow1 r') ∧ s'.allowCode r' = s.allowCode r := by
  have e : s'.allowCode r' = s.allowCode r := by unfold SB.allowCode; rw [h.state, h.cnt, al.most]
  refine ⟨?_, e⟩
  unfold SB.allow1
  rw [e]
  split
  · exact h.put (fun c => { c with r := w32 (c.r + 1) })
  · exact h
theorem ASame.done {k o : Int} {r r' : Rules} {s s' : SB} (al : Alike k r r') (h : ASame k o s s') (now cl e : Int) (e0 : 0 ≤ e) (e1 : e ≤ 6) : ASame k o (s.done r now cl e) (s'.done r' (k * now + o) cl e) := by
  have hl := h.look al now
  unfold SB.done
  rw [hl.cleared]
  split
  · exact hl
  · unfold SB.done1
    rw [al.out e e0 e1, al.good e e0 e1, hl.state, hl.cnt, al.most, al.trip]
    split
    · exact ⟨rfl, rfl, hl.cleared, hl.timed, hl.fin, hl.chs, by dsimp only; rw [hl.opn]⟩
    · split
      · split
        · refine ASame.set al ?_ 0 now
          exact ⟨rfl, rfl, hl.cleared, hl.timed, hl.fin, hl.chs, hl.opn⟩
        · exact ⟨rfl, rfl, hl.cleared, hl.timed, hl.fin, hl.chs, hl.opn⟩
      · split
        · refine ASame.set al ?_ 2 now
          exact ⟨rfl, rfl, hl.cleared, hl.timed, hl.fin, hl.chs, hl.opn⟩
        · exact ⟨rfl, rfl, hl.cleared, hl.timed, hl.fin, hl.chs, hl.opn⟩

structure PSame (k o : Int) (q q' : SPlay) : Prop where
  s : ASame k o q.s q'.s
  now : q'.now = k * q.now + o
  went : q'.went = q.went
  done : q'.done = q.done
  out : q'.out = q.out
def slow (k : Int) (a : Act) : Act := { a with wait := a.wait * k }

theorem PSame.start {k o : Int} {r r' : Rules} (al : Alike k r r') (now : Int) : PSame k o (SPlay.start r now) (SPlay.start r' (k * now + o)) := by
  have h0 : ASame k o SB.zero SB.zero := ⟨rfl, rfl, rfl, rfl, fun x => (by cases x), rfl, rfl⟩
  have h := h0.clear al now
  exact ⟨⟨h.state, h.cnt, rfl, h.timed, h.fin, h.chs, h.opn⟩, rfl, rfl, rfl, rfl⟩
theorem PSame.act {k o : Int} {r r' : Rules} {q q' : SPlay} (al : Alike k r r') (h : PSame k o q q') (a : Act) (e0 : 0 ≤ a.err) (e1 : a.err ≤ 6) : PSame k o (q.act r a) (q'.act r' (slow k a)) := by
  have hn : q'.now + (slow k a).wait = k * (q.now + a.wait) + o := by rw [h.now, Int.mul_add]; unfold slow; dsimp only; rw [Int.mul_comm a.wait k]; omega
  have hl := h.s.look al (q.now + a.wait)
  have hal := hl.allow al
  unfold SPlay.act SPlay.sw SPlay.code SPlay.state
  rw [hn]
  have e1' : (slow k a).kind = a.kind := rfl
  have e2' : (slow k a).call = a.call := rfl
  have e3' : (slow k a).err = a.err := rfl
  rw [e1', e2', e3', h.went, h.done, h.out]
  have hd := h.s.done al (q.now + a.wait) (q.went.getD a.call.toNat 0) a.err e0 e1
  by_cases k0 : a.kind = 0
  · simp only [if_pos k0]
    exact ⟨hl, rfl, rfl, rfl, by dsimp only; rw [hl.state, hl.cnt, hl.cleared, if_neg (by omega), if_neg (by omega)]⟩
  · by_cases k1 : a.kind = 1
    · simp only [if_neg k0, if_pos k1]
      exact ⟨hal.1, rfl, by dsimp only; rw [hal.2, hl.cleared], by dsimp only; rw [hal.2], by dsimp only; rw [hal.2, hal.1.cnt, hal.1.cleared]⟩
    · simp only [if_neg k0, if_neg k1]
      exact ⟨hd, rfl, rfl, rfl, by dsimp only; rw [hd.cnt, hd.cleared]⟩
theorem PSame.run {k o : Int} {r r' : Rules} (al : Alike k r r') (l : List Act) {q q' x : SPlay} (h : PSame k o q q') (ha : l.all actOk = true) (hr : SPlay.run r q l = some x) : ∃ x', SPlay.run r' q' (l.map (slow k)) = some x' ∧ PSame k o x x' := by
  induction l generalizing q q' with
  | nil => simp [SPlay.run] at hr; subst hr; exact ⟨q', rfl, h⟩
  | cons a l ih =>
    simp at ha
    obtain ⟨_, _, _, e0, e1⟩ := actOk_parts ha.1
    unfold SPlay.run at hr
    have hb : q'.bad (slow k a) = q.bad a := by unfold SPlay.bad slow; rw [h.went, h.done]
    cases hq : q.bad a with
    | true => rw [if_pos hq] at hr; cases hr
    | false =>
      rw [if_neg (by simp [hq])] at hr
      obtain ⟨x', y1, y2⟩ := ih (h.act al a e0 e1) (by simpa using ha.2) hr
      refine ⟨x', ?_, y2⟩
      rw [List.map_cons, SPlay.run, hb, if_neg (by simp [hq])]
      exact y1

/-- The changes of the state, one behind the other. -/
def chainOk : Int → List (Int × Int) → Prop
  | _, [] => True
  | s, c :: l => c.1 = s ∧ ((c.1 = 0 ∧ c.2 = 2) ∨ (c.1 = 2 ∧ c.2 = 1) ∨ (c.1 = 1 ∧ (c.2 = 0 ∨ c.2 = 2))) ∧ chainOk c.2 l
def chainEnd : Int → List (Int × Int) → Int
  | s, [] => s
  | _, c :: l => chainEnd c.2 l
theorem chain_snoc {s a b : Int} {l : List (Int × Int)} (h : chainOk s l) (e : chainEnd s l = a) (hc : (a = 0 ∧ b = 2) ∨ (a = 2 ∧ b = 1) ∨ (a = 1 ∧ (b = 0 ∨ b = 2))) : chainOk s (l ++ [(a, b)]) ∧ chainEnd s (l ++ [(a, b)]) = b := by
  induction l generalizing s with
  | nil => exact ⟨⟨e.symm, hc, trivial⟩, rfl⟩
  | cons c l ih =>
    obtain ⟨x, y⟩ := ih h.2.2 e
    exact ⟨⟨h.1, h.2.1, x⟩, y⟩
structure Chain (s : SB) : Prop where
  ok : chainOk 0 s.chs
  fin : chainEnd 0 s.chs = s.state
  three : s.Three
  tim1 : s.state = 1 → s.timed = false
theorem Chain.clear {s : SB} (ok : chainOk 0 s.chs) (fin : chainEnd 0 s.chs = s.state) (three : s.Three) (r : Rules) (now : Int) : Chain (SB.clear r now s) := by
  refine ⟨ok, fin, three, ?_⟩
  intro x
  have x' : s.state = 1 := x
  unfold SB.clear
  dsimp only
  rw [if_neg (by omega), if_neg (by omega)]
theorem Chain.set {s : SB} (h : Chain s) (r : Rules) (st now : Int) (hc : (s.state = 0 ∧ st = 2) ∨ (s.state = 2 ∧ st = 1) ∨ (s.state = 1 ∧ (st = 0 ∨ st = 2))) : Chain (SB.set r st now s) := by
  obtain ⟨a, b⟩ := chain_snoc h.ok h.fin hc
  exact Chain.clear (s := { s with chs := s.chs ++ [(s.state, st)], state := st }) a b (show st = 0 ∨ st = 1 ∨ st = 2 by omega) r now
theorem Chain.look {s : SB} (h : Chain s) (r : Rules) (now : Int) : Chain (s.look r now) := by
  unfold SB.look
  split
  · exact h
  · next ht =>
    split
    · exact ⟨h.ok, h.fin, h.three, h.tim1⟩
    · split
      · exact Chain.clear (s := { s with opn := s.opn || (now == s.fin) }) h.ok h.fin h.three r now
      · next h0 =>
        have h2 : s.state = 2 := by
          rcases h.three with x | x | x
          · exact absurd x h0
          · exact absurd (h.tim1 x) ht
          · exact x
        exact Chain.set (s := { s with opn := s.opn || (now == s.fin) }) ⟨h.ok, h.fin, h.three, h.tim1⟩ r 1 now (.inr (.inl ⟨h2, rfl⟩))
theorem Chain.cnt {s : SB} (h : Chain s) (c : Cnt) : Chain { s with cnt := c } := ⟨h.ok, h.fin, h.three, h.tim1⟩
theorem Chain.allow {s : SB} (h : Chain s) (r : Rules) : Chain (s.allow1 r) := by
  unfold SB.allow1; split
  · exact h.cnt _
  · exact h
theorem Chain.done {s : SB} (h : Chain s) (r : Rules) (now cl e : Int) : Chain (s.done r now cl e) := by
  have hl := h.look r now
  unfold SB.done
  split
  · exact hl
  · unfold SB.done1
    split
    · exact ⟨hl.ok, hl.fin, hl.three, hl.tim1⟩
    · split
      · split
        · next hx => exact (hl.cnt _).set r 0 now (.inr (.inr ⟨hx.1, .inl rfl⟩))
        · exact hl.cnt _
      · split
        · next hx =>
          refine (hl.cnt _).set r 2 now ?_
          rcases hx with hx | hx
          · exact .inr (.inr ⟨hx, .inr rfl⟩)
          · exact .inl ⟨hx.1, rfl⟩
        · exact hl.cnt _
theorem Chain.act {q : SPlay} (h : Chain q.s) (r : Rules) (a : Act) : Chain (q.act r a).s := by
  show Chain (q.sw r a).s
  unfold SPlay.sw
  split
  · exact h.look r _
  · split
    · exact (h.look r _).allow r
    · exact h.done r _ _ _
theorem Chain.start (r : Rules) (now : Int) : Chain (SPlay.start r now).s := by
  have h := Chain.clear (s := SB.zero) trivial rfl (.inl rfl) r now
  exact ⟨h.ok, h.fin, h.three, h.tim1⟩
theorem Chain.run {r : Rules} (l : List Act) {q q' : SPlay} (h : Chain q.s) (hr : SPlay.run r q l = some q') : Chain q'.s := by
  induction l generalizing q with
  | nil => simp [SPlay.run] at hr; subst hr; exact h
  | cons a l ih =>
    unfold SPlay.run at hr
    split at hr
    · cases hr
    · exact ih (h.act r a) hr

/-- The requests that have gone since the counts were cleared, and have not been told done. -/
def pend (cl : Int) : List Int → List Bool → Int
  | g :: gs, d :: ds => (if g = cl ∧ d = false then 1 else 0) + pend cl gs ds
  | _, _ => 0
theorem pend_snoc (cl g : Int) (d : Bool) {gs : List Int} {ds : List Bool} (h : ds.length = gs.length) : pend cl (gs ++ [g]) (ds ++ [d]) = pend cl gs ds + (if g = cl ∧ d = false then 1 else 0) := by
  induction gs generalizing ds with
  | nil => cases ds with
    | nil => simp [pend]
    | cons d ds => simp at h
  | cons x gs ih => cases ds with
    | nil => simp at h
    | cons y ds =>
      simp only [List.cons_append, pend]
      rw [ih (by simpa using h)]
      omega
theorem pend_zero {cl : Int} {gs : List Int} {ds : List Bool} (h : ∀ g ∈ gs, g < cl) : pend cl gs ds = 0 := by
  induction gs generalizing ds with
  | nil => cases ds <;> rfl
  | cons x gs ih => cases ds with
    | nil => rfl
    | cons y ds =>
      simp only [pend]
      have := h x (by simp)
      rw [if_neg (by omega), ih (fun g hg => h g (by simp [hg]))]
      rfl
theorem pend_nonneg (cl : Int) (gs : List Int) (ds : List Bool) : 0 ≤ pend cl gs ds := by
  induction gs generalizing ds with
  | nil => cases ds <;> simp [pend]
  | cons x gs ih => cases ds with
    | nil => simp [pend]
    | cons y ds =>
      simp only [pend]
      have := ih ds
      split <;> omega
theorem pend_set {cl : Int} {gs : List Int} {ds : List Bool} {k : Nat} {g : Int} (hg : gs[k]? = some g) (hd : ds[k]? = some false) : pend cl gs (ds.set k true) = pend cl gs ds - (if g = cl then 1 else 0) := by
  induction gs generalizing ds k with
  | nil => simp at hg
  | cons x gs ih => cases ds with
    | nil => simp at hd
    | cons y ds =>
      cases k with
      | zero =>
        simp at hg hd
        subst hg; subst hd
        simp only [List.set_cons_zero, pend]
        split <;> split <;> simp_all <;> omega
      | succ k =>
        simp only [List.set_cons_succ, pend]
        rw [ih (by simpa using hg) (by simpa using hd)]
        omega

structure AddOk (c : Cnt) : Prop where
  s0 : 0 ≤ c.s
  f0 : 0 ≤ c.f
  x0 : 0 ≤ c.x
  g0 : 0 ≤ c.g
  h0 : 0 ≤ c.h
  gs : c.g ≤ c.s
  hf : c.h ≤ c.f
  gh : c.g = 0 ∨ c.h = 0
  sum : c.s + c.f + c.x ≤ c.r
  top : c.r ≤ 2001
structure Tally (cl : Int) (c : Cnt) (gs : List Int) (ds : List Bool) : Prop where
  ok : AddOk c
  sum : c.s + c.f + c.x + pend cl gs ds = c.r
  few : c.r ≤ gs.length
theorem Tally.zero {cl : Int} {gs : List Int} {ds : List Bool} (h : ∀ g ∈ gs, g < cl) : Tally cl Cnt.zero gs ds :=
  ⟨⟨by decide, by decide, by decide, by decide, by decide, by decide, by decide, by decide, by decide, by decide⟩, by rw [pend_zero h]; rfl, by show (0 : Int) ≤ _; omega⟩
theorem w32_small {n : Int} (h0 : 0 ≤ n) (h1 : n < 4294967296) : w32 n = n := by unfold w32; omega
theorem Tally.req {cl : Int} {c : Cnt} {gs : List Int} {ds : List Bool} (h : Tally cl c gs ds) (hl : ds.length = gs.length) (hn : gs.length ≤ 2000) : Tally cl { c with r := w32 (c.r + 1) } (gs ++ [cl]) (ds ++ [false]) := by
  have o := h.ok
  have h1 := o.s0
  have h2 := o.f0
  have h3 := o.x0
  have h4 := o.sum
  have h5 := h.few
  have e : w32 (c.r + 1) = c.r + 1 := w32_small (by omega) (by omega)
  rw [e]
  have hs := h.sum
  exact ⟨⟨o.s0, o.f0, o.x0, o.g0, o.h0, o.gs, o.hf, o.gh, by dsimp only; omega, by dsimp only; omega⟩, by rw [pend_snoc cl cl false hl]; simp; omega, by simp; omega⟩
theorem Tally.stale {cl : Int} {c : Cnt} {gs : List Int} {ds : List Bool} (h : Tally cl c gs ds) {k : Nat} {g : Int} (hg : gs[k]? = some g) (hd : ds[k]? = some false) (hne : g ≠ cl) : Tally cl c gs (ds.set k true) :=
  ⟨h.ok, by rw [pend_set hg hd, if_neg hne]; have := h.sum; omega, h.few⟩
theorem Tally.hit {cl : Int} {c : Cnt} {gs : List Int} {ds : List Bool} (h : Tally cl c gs ds) {k : Nat} (hg : gs[k]? = some cl) (hd : ds[k]? = some false) : Tally cl c.excl gs (ds.set k true) ∧ Tally cl c.succ gs (ds.set k true) ∧ Tally cl c.fail gs (ds.set k true) := by
  have o := h.ok
  have h1 := o.s0
  have h2 := o.f0
  have h3 := o.x0
  have h4 := o.sum
  have h5 := o.top
  have h6 := o.g0
  have h7 := o.h0
  have h8 := o.gs
  have h9 := o.hf
  have hs := h.sum
  have hp := pend_nonneg cl gs (ds.set k true)
  have hq := pend_set (cl := cl) hg hd
  rw [if_pos rfl] at hq
  have e1 : w32 (c.x + 1) = c.x + 1 := w32_small (by omega) (by omega)
  have e2 : w32 (c.s + 1) = c.s + 1 := w32_small (by omega) (by omega)
  have e3 : w32 (c.g + 1) = c.g + 1 := w32_small (by omega) (by omega)
  have e4 : w32 (c.f + 1) = c.f + 1 := w32_small (by omega) (by omega)
  have e5 : w32 (c.h + 1) = c.h + 1 := w32_small (by omega) (by omega)
  unfold Cnt.excl Cnt.succ Cnt.fail
  rw [e1, e2, e3, e4, e5]
  refine ⟨⟨⟨h1, h2, ?_, h6, h7, h8, h9, o.gh, ?_, h5⟩, ?_, h.few⟩, ⟨⟨?_, h2, h3, ?_, ?_, ?_, ?_, .inr rfl, ?_, h5⟩, ?_, h.few⟩, ⟨⟨h1, ?_, h3, ?_, ?_, ?_, ?_, .inl rfl, ?_, h5⟩, ?_, h.few⟩⟩ <;> dsimp only <;> omega

theorem look_cases (s : SB) (r : Rules) (now : Int) (h0 : 0 ≤ s.cleared) (h1 : s.cleared ≤ 1000000) : ((s.look r now).cnt = s.cnt ∧ (s.look r now).cleared = s.cleared ∧ (s.look r now).state = s.state) ∨ ((s.look r now).cnt = Cnt.zero ∧ (s.look r now).cleared = s.cleared + 1 ∧ ((s.look r now).state = 0 ∨ (s.look r now).state = 1)) := by
  unfold SB.look
  split
  · exact .inl ⟨rfl, rfl, rfl⟩
  · split
    · exact .inl ⟨rfl, rfl, rfl⟩
    · split
      · next hs => exact .inr ⟨rfl, clear_cleared r now _ h0 h1, .inl hs⟩
      · exact .inr ⟨rfl, set_cleared r 1 now _ h0 h1, .inr rfl⟩

theorem Tally.look {q : SPlay} {r : Rules} {now : Int} (h0 : 0 ≤ q.s.cleared) (h1 : q.s.cleared ≤ 999990) (wle : ∀ g ∈ q.went, g ≤ q.s.cleared ∧ (q.s.state = 2 → g < q.s.cleared)) (h : Tally q.s.cleared q.s.cnt q.went q.done) :
    Tally (q.s.look r now).cleared (q.s.look r now).cnt q.went q.done ∧ (∀ g ∈ q.went, g ≤ (q.s.look r now).cleared ∧ ((q.s.look r now).state = 2 → g < (q.s.look r now).cleared)) ∧ q.s.cleared ≤ (q.s.look r now).cleared ∧ (q.s.look r now).cleared ≤ q.s.cleared + 1 := by
  rcases look_cases q.s r now h0 (by omega) with ⟨a, b, c⟩ | ⟨a, b, c⟩
  · rw [a, b, c]; exact ⟨h, wle, by omega, by omega⟩
  · rw [a, b]
    exact ⟨Tally.zero fun g hg => by have := (wle g hg).1; omega, fun g hg => ⟨by have := (wle g hg).1; omega, fun x => by omega⟩, by omega, by omega⟩

theorem Tally.act {r : Rules} {n : Nat} {p : Play} {q : SPlay} {a : Act} (h : PRel r n p q) (hn : n ≤ 2000) (hw : q.went.length ≤ n) (ha : actOk a = true) (hb : q.bad a = false) (t : Tally q.s.cleared q.s.cnt q.went q.done) : Tally (q.sw r a).s.cleared (q.sw r a).s.cnt (q.sw r a).went (q.sw r a).done := by
  have hf := h.few
  obtain ⟨l1, l2, l3, l4⟩ := Tally.look (r := r) (now := q.now + a.wait) h.c.cl0 (by omega) h.wle t
  obtain ⟨hk, _⟩ := actOk_parts ha
  unfold SPlay.sw
  split
  · exact l1
  · split
    · by_cases hc : (q.s.look r (q.now + a.wait)).allowCode r = 0
      · rw [if_pos hc, if_pos hc]
        unfold SB.allow1
        rw [if_pos hc]
        exact l1.req h.dl (by omega)
      · rw [if_neg hc, if_neg hc]
        unfold SB.allow1
        rw [if_neg hc]
        exact l1
    · have hk2 : a.kind = 2 := by omega
      unfold SPlay.bad at hb
      simp [hk2] at hb
      obtain ⟨x, y, z⟩ := hb
      obtain ⟨k, hkk⟩ : ∃ k : Nat, a.call = (k : Int) := ⟨a.call.toNat, by omega⟩
      have hkl : k < q.went.length := by omega
      have hdl : k < q.done.length := by rw [h.dl]; exact hkl
      have hg : q.went[k]? = some q.went[k] := List.getElem?_eq_getElem hkl
      have hd : q.done[k]? = some false := by
        rw [List.getElem?_eq_getElem hdl]
        rw [hkk] at z
        simp [hdl] at z
        rw [z]
      have hgd : q.went.getD a.call.toNat 0 = q.went[k] := by rw [hkk]; simp [List.getD, hkl]
      rw [hgd]
      have hkn : a.call.toNat = k := by omega
      dsimp only
      rw [hkn]
      unfold SB.done
      by_cases hcl : (q.s.look r (q.now + a.wait)).cleared = q.went[k]
      · rw [if_neg (by simp [hcl])]
        obtain ⟨t1, t2, t3⟩ := l1.hit (by rw [hg, hcl]) hd
        have zz : ∀ st s', s'.cleared = (q.s.look r (q.now + a.wait)).cleared → Tally (SB.set r st (q.now + a.wait) s').cleared (SB.set r st (q.now + a.wait) s').cnt q.went (q.done.set k true) := by
          intro st s' e
          rw [set_cleared r st _ s' (by have := h.c.cl0; omega) (by omega)]
          exact Tally.zero fun g hg => by have := (l2 g hg).1; omega
        unfold SB.done1
        split
        · exact t1
        · split
          · split
            · exact zz _ _ rfl
            · exact t2
          · split
            · exact zz _ _ rfl
            · exact t3
      · rw [if_pos hcl]
        exact l1.stale hg hd (fun e => hcl e.symm)

/-- At all times the counts add up. -/
theorem counts_run {r : Rules} (m : r.Mild) (l : List Act) {n : Nat} {p : Play} {q q' : SPlay} (h : PRel r n p q) (hn : n + l.length ≤ 2001) (hw : q.went.length ≤ n) (t : Tally q.s.cleared q.s.cnt q.went q.done) (hall : ∀ x ∈ q.out, AddOk x.cnt) (ha : l.all actOk = true) (hr : SPlay.run r q l = some q') (ho : q'.s.opn = false) : ∀ x ∈ q'.out, AddOk x.cnt := by
  induction l generalizing n p q with
  | nil => simp [SPlay.run] at hr; subst hr; exact hall
  | cons a l ih =>
    simp at ha hn
    unfold SPlay.run at hr
    cases hb : q.bad a with
    | true => rw [if_pos hb] at hr; cases hr
    | false =>
      rw [if_neg (by simp [hb])] at hr
      obtain ⟨_, y⟩ := h.act m (by omega) ha.1 hb (show (q.act r a).s.opn = false from run_opn hr ho)
      have t' := Tally.act h (by omega) hw ha.1 hb t
      obtain ⟨_, s2, _⟩ := SPlay.sw_sizes r q a
      refine ih y (by omega) ?_ t' ?_ (by simpa using ha.2) hr
      · show (q.sw r a).went.length ≤ n + 1
        omega
      · intro x hx
        unfold SPlay.act at hx
        simp at hx
        rcases hx with hx | rfl
        · exact hall x hx
        · exact t'.ok
theorem law_counts {r : Rules} {start : Int} {l : List Act} {q : SPlay} (h : areActs r start l = true) (m0 : 0 ≤ r.most) (m1 : r.most < 4294967296) (hq : SPlay.run r (SPlay.start r start) l = some q) : ∀ x ∈ q.out, AddOk x.cnt := by
  obtain ⟨h1, h2, h3, h4, q', hq', ho⟩ := areActs_parts h
  rw [hq] at hq'
  cases hq'
  have m := mild_of h1 m0 m1
  obtain ⟨a, b⟩ := isTime_parts h2
  obtain ⟨s1, _⟩ := PRel.start m a b
  exact counts_run m l s1 (by omega) (show (0 : Nat) ≤ 0 by omega) (Tally.zero (by intro g hg; simp [SPlay.start] at hg)) (by intro x hx; simp [SPlay.start] at hx) h4 hq ho

end Go.Proofs.Ytcjklacfoldaoaa
