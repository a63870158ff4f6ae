/- Calls without panics in two steps (plain): the same counts and changes. Conditions: the calls are within the bounds. -/
import Derived.Test.YtcjklacfoldaoaaGreatSpecZ
import Derived.Test.YtcjklacfoldaoaaGreatCallsZ
import Derived.Test.YtcjklacfoldaoaaGreatPlay
namespace Go.Proofs.YtcjklacfoldaoaaGreat
open Go.RowKit

def stepsT : List Call → List Told → Nat → List Act
  | k :: l, t :: ts, n => ⟨1, k.wait, 0, 0⟩ :: (if t.ran then ⟨2, k.long, (n : Int), k.err⟩ :: stepsT l ts (n + 1) else stepsT l ts n)
  | _, _, _ => []
theorem stepsT_drop {l : List Call} {ts : List Told} {i : Nat} {k : Call} {t : Told} (n : Nat) (h1 : l[i]? = some k) (h2 : ts[i]? = some t) : stepsT (l.drop i) (ts.drop i) n = ⟨1, k.wait, 0, 0⟩ :: (if t.ran then ⟨2, k.long, (n : Int), k.err⟩ :: stepsT (l.drop (i + 1)) (ts.drop (i + 1)) (n + 1) else stepsT (l.drop (i + 1)) (ts.drop (i + 1)) n) := by
  have hi : i < l.length := by
    rcases Nat.lt_or_ge i l.length with h' | h'
    · exact h'
    · rw [List.getElem?_eq_none h'] at h1; cases h1
  have hj : i < ts.length := by
    rcases Nat.lt_or_ge i ts.length with h' | h'
    · exact h'
    · rw [List.getElem?_eq_none h'] at h2; cases h2
  rw [List.drop_eq_getElem_cons hi, List.drop_eq_getElem_cons hj]
  rw [List.getElem?_eq_getElem hi] at h1
  rw [List.getElem?_eq_getElem hj] at h2
  simp at h1 h2
  rw [h1, h2, stepsT]
theorem stepsT_len (l : List Call) (ts : List Told) (n : Nat) : (stepsT l ts n).length ≤ 2 * l.length := by
  induction l generalizing ts n with
  | nil => cases ts <;> simp [stepsT]
  | cons k l ih =>
    cases ts with
    | nil => simp [stepsT]
    | cons t ts =>
      unfold stepsT
      split
      · have := ih ts (n + 1); simp; omega
      · have := ih ts n; simp; omega
theorem stepsT_ok (l : List Call) (ts : List Told) (n : Nat) (h : l.all callOk = true) : (stepsT l ts n).all actOk = true := by
  induction l generalizing ts n with
  | nil => cases ts <;> simp [stepsT]
  | cons k l ih =>
    cases ts with
    | nil => simp [stepsT]
    | cons t ts =>
      simp only [List.all_cons, Bool.and_eq_true] at h
      obtain ⟨h1, h2⟩ := h
      have a1 : actOk ⟨1, k.wait, 0, 0⟩ = true := by
        unfold callOk at h1; unfold actOk
        simp at h1 ⊢
        exact ⟨h1.1, by decide⟩
      have a2 : actOk ⟨2, k.long, (n : Int), k.err⟩ = true := by
        unfold callOk at h1; unfold actOk
        simp at h1 ⊢
        exact ⟨h1.2.1, h1.2.2⟩
      unfold stepsT
      split
      · rw [List.all_cons, a1, List.all_cons, a2, ih ts (n + 1) h2]; rfl
      · rw [List.all_cons, a1, ih ts n h2]; rfl

/-- How many answers calls have in two steps. -/
def pos : List Told → Nat
  | [] => 0
  | t :: ts => (if t.ran then 2 else 1) + pos ts
theorem pos_snoc (ts : List Told) (t : Told) : pos (ts ++ [t]) = pos ts + (if t.ran then 2 else 1) := by
  induction ts with
  | nil => simp [pos]
  | cons a ts ih => simp only [List.cons_append, pos, ih]; omega
theorem pos_take {ts : List Told} {i : Nat} {t : Told} (h : ts[i]? = some t) : pos (ts.take (i + 1)) = pos (ts.take i) + (if t.ran then 2 else 1) := by
  rw [List.take_add_one, h]
  exact pos_snoc _ _
theorem pos_le (ts : List Told) : pos ts ≤ 2 * ts.length := by
  induction ts with
  | nil => simp [pos]
  | cons a ts ih => simp only [pos, List.length_cons]; split <;> omega

structure TRel (p : SC) (q : SPlay) : Prop where
  s : q.s = p.s
  now : q.now = p.now
  dl : q.done.length = q.went.length
  len : q.out.length = pos p.out
  cnt : ∀ (i : Nat) (t : Told), p.out[i]? = some t → ∃ x, q.out[pos (p.out.take (i + 1)) - 1]? = some x ∧ x.cnt = t.cnt

theorem TRel.next {p : SC} {q : SPlay} (h : TRel p q) {p' : SC} {q' : SPlay} {t : Told} {xs : List Ans} {x : Ans} (hs : q'.s = p'.s) (hn : q'.now = p'.now) (hd : q'.done.length = q'.went.length) (hp : p'.out = p.out ++ [t]) (hq : q'.out = q.out ++ xs ++ [x]) (hx : xs.length + 1 = if t.ran then 2 else 1) (hc : x.cnt = t.cnt) : TRel p' q' := by
  refine ⟨hs, hn, hd, ?_, ?_⟩
  · rw [hp, hq, pos_snoc, ← hx]
    simp only [List.length_append, h.len, List.length_cons, List.length_nil]
    omega
  · intro i u hu
    rw [hp] at hu ⊢
    rcases Nat.lt_trichotomy i p.out.length with hi | hi | hi
    · rw [List.getElem?_append_left hi] at hu
      obtain ⟨y, hy1, hy2⟩ := h.cnt i u hu
      refine ⟨y, ?_, hy2⟩
      rw [List.take_append_of_le_length (by omega), hq]
      have hlt : pos (p.out.take (i + 1)) - 1 < q.out.length := by
        rcases Nat.lt_or_ge (pos (p.out.take (i + 1)) - 1) q.out.length with h' | h'
        · exact h'
        · rw [List.getElem?_eq_none h'] at hy1; cases hy1
      rw [List.append_assoc, List.getElem?_append_left hlt]
      exact hy1
    · subst hi
      simp at hu
      subst hu
      refine ⟨x, ?_, hc⟩
      rw [show (p.out ++ [t]).take (p.out.length + 1) = p.out ++ [t] by rw [List.take_of_length_le (by simp)], pos_snoc, ← hx, ← h.len, hq]
      rw [show q.out.length + (xs.length + 1) - 1 = (q.out ++ xs).length by simp]
      simp
    · rw [List.getElem?_eq_none (by simp; omega)] at hu; cases hu

theorem stepsT_run {r : Rules} (l : List Call) {p : SC} {q : SPlay} {ts : List Told} (h : TRel p q) (hp : ∀ k ∈ l, k.pan = false) (ht : (SC.run r p l).out = p.out ++ ts) : ∃ q', SPlay.run r q (stepsT l ts q.went.length) = some q' ∧ TRel (SC.run r p l) q' := by
  induction l generalizing p q ts with
  | nil =>
    refine ⟨q, ?_, h⟩
    cases ts <;> rfl
  | cons k l ih =>
    have hr : SC.run r p (k :: l) = SC.run r (p.step r k) l := rfl
    rw [hr] at ht ⊢
    obtain ⟨ts2, h2⟩ : ∃ ts2, (SC.run r (p.step r k) l).out = (p.step r k).out ++ ts2 := by
      clear ih ht hr hp h
      generalize p.step r k = p2
      induction l generalizing p2 with
      | nil => exact ⟨[], by simp [SC.run]⟩
      | cons a l ih =>
        obtain ⟨ts2, h2⟩ := ih (p2.step r a)
        exact ⟨_, by show (SC.run r (p2.step r a) l).out = _; rw [h2]; show (p2.out ++ [_]) ++ ts2 = _; rw [List.append_assoc]⟩
    have hout : (p.step r k).out = p.out ++ [{ p.told r k with cnt := (p.sb r k).cnt }] := rfl
    have hts : ts = { p.told r k with cnt := (p.sb r k).cnt } :: ts2 := by
      rw [ht, hout, List.append_assoc] at h2
      exact List.append_cancel_left h2
    subst hts
    have hk := hp k (by simp)
    have hpl : ∀ k' ∈ l, k'.pan = false := fun k' hk' => hp k' (by simp [hk'])
    have hee : execErr k = k.err := by unfold execErr; rw [hk]; rfl
    have hlk : q.s.look r (q.now + k.wait) = p.look r k := by rw [h.s, h.now]; rfl
    have f2 : ((p.look r k).allow1 r).cleared = (p.look r k).cleared := by unfold SB.allow1; split <;> rfl
    by_cases hc : (p.look r k).allowCode r = 0
    · have hran : (p.told r k).ran = true := by unfold SC.told; rw [if_pos hc, hk]; rfl
      -- the first step
      obtain ⟨q1, hq1⟩ : ∃ q1, q1 = q.act r ⟨1, k.wait, 0, 0⟩ := ⟨_, rfl⟩
      have e1 : q1 = { s := (p.look r k).allow1 r, now := q.now + k.wait, went := q.went ++ [(p.look r k).cleared], done := q.done ++ [false], out := q.out ++ [⟨0, -1, ((p.look r k).allow1 r).cnt, ((p.look r k).allow1 r).cleared⟩] } := by
        rw [hq1]
        unfold SPlay.act SPlay.code SPlay.state SPlay.sw
        simp [hlk, hc]
      obtain ⟨q2, hq2⟩ : ∃ q2, q2 = q1.act r ⟨2, k.long, (q.went.length : Int), k.err⟩ := ⟨_, rfl⟩
      have hb1 : q.bad ⟨1, k.wait, 0, 0⟩ = false := by unfold SPlay.bad; simp
      have hb2 : q1.bad ⟨2, k.long, (q.went.length : Int), k.err⟩ = false := by
        rw [e1]; unfold SPlay.bad
        simp
        refine ⟨by omega, ?_⟩
        rw [← h.dl]; simp
      have hsb : p.sb r k = ((p.look r k).allow1 r).done r (p.now + k.wait + k.long) (p.look r k).cleared k.err := by
        unfold SC.sb SC.went; rw [if_pos hc, hee, f2]
      have e2s : q2.s = p.sb r k := by
        rw [hq2, e1, hsb]
        unfold SPlay.act SPlay.sw
        simp [h.now]
      have e2n : q2.now = p.now' r k := by
        rw [hq2, e1]
        unfold SPlay.act SPlay.sw SC.now'
        simp [hc, h.now]
      have e2w : q2.went = q.went ++ [(p.look r k).cleared] := by
        rw [hq2, e1]
        unfold SPlay.act SPlay.sw
        simp
      have e2d : q2.done.length = q2.went.length := by
        rw [e2w, hq2, e1]
        unfold SPlay.act SPlay.sw
        simp [h.dl]
      have e2o : ∃ y, q2.out = q.out ++ [⟨0, -1, ((p.look r k).allow1 r).cnt, ((p.look r k).allow1 r).cleared⟩] ++ [y] ∧ y.cnt = (p.sb r k).cnt := by
        refine ⟨⟨q1.code r ⟨2, k.long, (q.went.length : Int), k.err⟩, q1.state r ⟨2, k.long, (q.went.length : Int), k.err⟩, q2.s.cnt, q2.s.cleared⟩, ?_, by rw [← e2s]⟩
        rw [show q2.s = (q1.sw r ⟨2, k.long, (q.went.length : Int), k.err⟩).s by rw [hq2]; rfl, hq2]
        show q1.out ++ [_] = _
        rw [e1]
      obtain ⟨y, e2o, hy⟩ := e2o
      have hrel : TRel (p.step r k) q2 := h.next e2s e2n e2d hout e2o (by rw [show ({ p.told r k with cnt := (p.sb r k).cnt } : Told).ran = true from hran]; rfl) hy
      obtain ⟨q', r1, r2⟩ := ih hrel hpl h2
      refine ⟨q', ?_, r2⟩
      unfold stepsT
      rw [show ({ p.told r k with cnt := (p.sb r k).cnt } : Told).ran = true from hran, if_pos rfl]
      unfold SPlay.run
      rw [hb1, if_neg (by simp), ← hq1]
      unfold SPlay.run
      rw [hb2, if_neg (by simp), ← hq2]
      rw [e2w, List.length_append] at r1
      exact r1
    · have hran : (p.told r k).ran = false := by unfold SC.told; rw [if_neg hc]
      obtain ⟨q1, hq1⟩ : ∃ q1, q1 = q.act r ⟨1, k.wait, 0, 0⟩ := ⟨_, rfl⟩
      have e1 : q1 = { s := (p.look r k).allow1 r, now := q.now + k.wait, went := q.went, done := q.done, out := q.out ++ [⟨(p.look r k).allowCode r, -1, ((p.look r k).allow1 r).cnt, ((p.look r k).allow1 r).cleared⟩] } := by
        rw [hq1]
        unfold SPlay.act SPlay.code SPlay.state SPlay.sw
        simp [hlk, hc]
      have hb1 : q.bad ⟨1, k.wait, 0, 0⟩ = false := by unfold SPlay.bad; simp
      have hsb : p.sb r k = (p.look r k).allow1 r := by unfold SC.sb; rw [if_neg hc]
      have hnn : p.now' r k = p.now + k.wait := by unfold SC.now'; rw [if_neg hc]
      have hrel : TRel (p.step r k) q1 := by
        refine h.next (xs := []) (x := ⟨(p.look r k).allowCode r, -1, ((p.look r k).allow1 r).cnt, ((p.look r k).allow1 r).cleared⟩) ?_ ?_ ?_ hout ?_ ?_ ?_
        · rw [e1]; exact hsb.symm
        · rw [e1]; show q.now + k.wait = p.now' r k; rw [hnn, h.now]
        · rw [e1]; exact h.dl
        · rw [e1]; simp
        · rw [show ({ p.told r k with cnt := (p.sb r k).cnt } : Told).ran = false from hran]; rfl
        · show _ = (p.sb r k).cnt; rw [hsb]
      obtain ⟨q', r1, r2⟩ := ih hrel hpl h2
      refine ⟨q', ?_, r2⟩
      unfold stepsT
      rw [show ({ p.told r k with cnt := (p.sb r k).cnt } : Told).ran = false from hran, if_neg (by simp)]
      unfold SPlay.run
      rw [hb1, if_neg (by simp), ← hq1]
      have hw : q1.went = q.went := by rw [e1]
      rw [hw] at r1
      exact r1

/-- What PlayTwoStep does within the bounds. -/
structure TSaid (r : Rules) (start : Int) (l : List Act) (q : SPlay) : Prop where
  len : q.out.length = l.length
  short : l.length ≤ 2000
  play : ∀ (va : Value) (w : World), ActsAt w va l → Calls Tryz.prog 16 #[rulesV r, .int .i64 start, va] w fun e w' =>
      ∃ vo vc, e = .returned (.tuple #[vo, vc]) ∧ w'.ownsRow w.heap.size 52 9 vo q.out.length (ansFlat q.out) ∧ w'.ownsRow w.heap.size 85 2 vc q.s.chs.length (chFlat q.s.chs) ∧ Below w.heap.size w w'

theorem srun_len {r : Rules} (l : List Act) {q q' : SPlay} (hr : SPlay.run r q l = some q') : q'.out.length = q.out.length + l.length := by
  induction l generalizing q with
  | nil => simp [SPlay.run] at hr; subst hr; simp
  | cons a l ih =>
    unfold SPlay.run at hr
    split at hr
    · cases hr
    · have x := ih hr
      obtain ⟨_, _, _, _, r5⟩ := SPlay.act_s r q a
      rw [r5] at x
      simp only [List.length_cons]
      omega

theorem tsaid {r : Rules} {start : Int} {l : List Act} {q : SPlay} (rok : r.Ok) (h : areActs r start l = true) (m0 : 0 ≤ r.most) (m1 : r.most < 4294967296) (hq : SPlay.run r (SPlay.start r start) l = some q) : TSaid r start l q := by
  obtain ⟨q0, hl⟩ := law h m0 m1
  have e := hl.run
  rw [hq] at e
  cases e
  obtain ⟨h1, h2, h3, h4, _⟩ := areActs_parts h
  obtain ⟨_, _, hb, hi, ht⟩ := areRules_parts h1
  obtain ⟨a, b⟩ := isTime_parts hi
  obtain ⟨c, d⟩ := isTime_parts ht
  obtain ⟨s0, s1⟩ := isTime_parts h2
  have z1 := srun_len l hl.run
  have e0 : (SPlay.start r start).out.length = 0 := rfl
  refine ⟨by omega, h3, fun va w ha => ?_⟩
  have hp := play_any r start va l w hb rok (by omega) (by omega) (by omega) (by omega) ha (by omega) (by rw [hl.gen]; exact hl.fine)
  rw [hl.gen, hl.rel.out, hl.rel.chs] at hp
  exact hp

/-- The whole law. -/
structure Ways (r : Rules) (start : Int) (l : List Call) (p : SC) (q : SPlay) : Prop where
  said : TSaid r start (stepsT l p.out 0) q
  chs : q.s.chs = p.s.chs
  len : q.out.length = pos p.out
  cnt : ∀ (i : Nat) (t : Told), p.out[i]? = some t → ∃ x, q.out[pos (p.out.take (i + 1)) - 1]? = some x ∧ x.cnt = t.cnt

theorem ways {r : Rules} {start : Int} {l : List Call} {p : SC} (rok : r.Ok) (h : areCalls r start l = true) (m0 : 0 ≤ r.most) (m1 : r.most < 4294967296) (hp : p = SC.run r (SC.start r start) l) (ho : p.s.opn = false) (hpan : ∀ k ∈ l, k.pan = false) : ∃ q, Ways r start l p q := by
  obtain ⟨h1, h2, h3, h4, h5⟩ := areCalls_parts h
  have hst : TRel (SC.start r start) (SPlay.start r start) := ⟨rfl, rfl, rfl, rfl, fun i t ht => by simp [SC.start] at ht⟩
  have hout : (SC.run r (SC.start r start) l).out = (SC.start r start).out ++ p.out := by rw [← hp]; simp [SC.start]
  obtain ⟨q, hq, hrel⟩ := stepsT_run l hst hpan hout
  have hq' : SPlay.run r (SPlay.start r start) (stepsT l p.out 0) = some q := hq
  rw [← hp] at hrel
  have hacts : areActs r start (stepsT l p.out 0) = true := by
    unfold areActs twoOk
    rw [h1, h2, stepsT_ok l p.out 0 h4, hq']
    have hl := stepsT_len l p.out 0
    rw [decide_eq_true (by omega)]
    simp [hrel.s, ho]
  exact ⟨q, tsaid rok hacts m0 m1 hq', by rw [hrel.s], hrel.len, hrel.cnt⟩

end Go.Proofs.YtcjklacfoldaoaaGreat
