/- A request that went before the counts were cleared tells its error: nothing changes (plain). Conditions: the acts lie within the bounds, with that act behind them too. -/
import Derived.Test.YtcjklacfoldaoaaPart
import Derived.Test.YtcjklacfoldaoaaFresh
namespace Go.Proofs.Ytcjklacfoldaoaa
open Go.RowKit

theorem fresh_sw {r : Rules} {q : SPlay} {a : Act} (ho : (q.sw r a).s.opn = false) : Fresh (q.sw r a).s (q.now + a.wait) := by
  unfold SPlay.sw at ho ⊢
  by_cases k0 : a.kind = 0
  · rw [if_pos k0] at ho ⊢; exact fresh_look ho
  · rw [if_neg k0] at ho ⊢
    by_cases k1 : a.kind = 1
    · rw [if_pos k1] at ho ⊢
      dsimp only at ho ⊢
      unfold SB.allow1 at ho ⊢
      split at ho
      · next hc => rw [if_pos hc]; exact fresh_look (r := r) (s := q.s) ho
      · next hc => rw [if_neg hc]; exact fresh_look ho
    · rw [if_neg k1] at ho ⊢
      dsimp only at ho ⊢
      unfold SB.done at ho ⊢
      split at ho
      · next hc => rw [if_pos hc]; exact fresh_look ho
      · next hc =>
        rw [if_neg hc]
        have hf := fresh_look (done1_opn ho).1
        unfold SB.done1
        split
        · exact hf
        · split
          · split
            · exact fresh_clear
            · exact hf
          · split
            · exact fresh_clear
            · exact hf

/-- The times at which requests have gone, as the answers tell them. -/
def goes : List Act → List Ans → List Int
  | a :: l, x :: o => (if a.kind = 1 ∧ x.code = 0 then [x.cleared] else []) ++ goes l o
  | _, _ => []
theorem goes_snoc {l : List Act} {o : List Ans} (h : l.length = o.length) (a : Act) (x : Ans) : goes (l ++ [a]) (o ++ [x]) = goes l o ++ (if a.kind = 1 ∧ x.code = 0 then [x.cleared] else []) := by
  induction l generalizing o with
  | nil => cases o with
    | nil => simp [goes]
    | cons y o => simp at h
  | cons b l ih => cases o with
    | nil => simp at h
    | cons y o =>
      simp only [List.cons_append, goes]
      rw [ih (by simpa using h), List.append_assoc]
structure Trace (l : List Act) (q : SPlay) : Prop where
  len : l.length = q.out.length
  went : q.went = goes l q.out
  fresh : Fresh q.s q.now
  last : ∀ x, q.out.getLast? = some x → x.cnt = q.s.cnt ∧ x.cleared = q.s.cleared
theorem Trace.act {r : Rules} {l : List Act} {q : SPlay} {a : Act} (h : Trace l q) (ho : (q.sw r a).s.opn = false) : Trace (l ++ [a]) (q.act r a) := by
  refine ⟨by simp [SPlay.act, h.len], ?_, ?_, ?_⟩
  · show (q.sw r a).went = goes (l ++ [a]) (q.out ++ [_])
    rw [goes_snoc h.len, ← h.went]
    unfold SPlay.sw SPlay.code
    by_cases k0 : a.kind = 0
    · rw [if_pos k0, if_neg (fun x => by omega)]; simp
    · rw [if_neg k0]
      by_cases k1 : a.kind = 1
      · have f2 : ((q.s.look r (q.now + a.wait)).allow1 r).cleared = (q.s.look r (q.now + a.wait)).cleared := by unfold SB.allow1; split <;> rfl
        simp only [if_pos k1]
        rw [f2]
        by_cases hc : (q.s.look r (q.now + a.wait)).allowCode r = 0
        · rw [if_pos hc, if_pos ⟨k1, hc⟩]
        · rw [if_neg hc, if_neg (fun x => hc x.2)]; simp
      · rw [if_neg k1, if_neg (fun x => k1 x.1)]; simp
  · have e : (q.act r a).now = q.now + a.wait := (SPlay.act_s r q a).2.1
    rw [e]
    exact fresh_sw ho
  · intro x hx
    simp [SPlay.act] at hx
    subst hx
    exact ⟨rfl, rfl⟩
theorem Trace.run {r : Rules} (m : List Act) {l : List Act} {q q' : SPlay} (h : Trace l q) (hr : SPlay.run r q m = some q') (ho : q'.s.opn = false) : Trace (l ++ m) q' := by
  induction m generalizing l q with
  | nil => simp [SPlay.run] at hr; subst hr; simpa using h
  | cons a m ih =>
    unfold SPlay.run at hr
    split at hr
    · cases hr
    · have := ih (h.act (r := r) (a := a) (show (q.act r a).s.opn = false from run_opn hr ho)) hr
      simpa using this
theorem trace_said {r : Rules} {start : Int} {l : List Act} {q : SPlay} (h : Said r start l q) : Trace l q := by
  have h0 : Trace [] (SPlay.start r start) := ⟨rfl, rfl, fresh_clear (s := SB.zero), by intro x hx; simp [SPlay.start] at hx⟩
  exact Trace.run l h0 h.run h.opn

theorem run_append {r : Rules} (l m : List Act) {q q' : SPlay} (h : SPlay.run r q l = some q') : SPlay.run r q (l ++ m) = SPlay.run r q' m := by
  induction l generalizing q with
  | nil => simp [SPlay.run] at h; subst h; rfl
  | cons a l ih =>
    unfold SPlay.run at h
    rw [List.cons_append, SPlay.run]
    split at h
    · cases h
    · next hb => rw [if_neg hb]; exact ih h

/-- The late act changes nothing. -/
theorem late_same {r : Rules} {start call e : Int} {l : List Act} {q q2 : SPlay} (h : Said r start l q) (h2 : Said r start (l ++ [⟨2, 0, call, e⟩]) q2) :
    (0 ≤ call ∧ call < q.went.length) ∧ (q.went.getD call.toNat 0 ≠ q.s.cleared → q2.s.chs = q.s.chs ∧ q2.out = q.out ++ [⟨0, -1, q.s.cnt, q.s.cleared⟩]) := by
  have ht := trace_said h
  have hr := h2.run
  rw [run_append l _ h.run] at hr
  unfold SPlay.run at hr
  split at hr
  · cases hr
  · next hb =>
    simp [SPlay.run] at hr
    unfold SPlay.bad at hb
    simp at hb
    refine ⟨⟨hb.1, hb.2.1⟩, fun hne => ?_⟩
    have hl : q.s.look r (q.now + 0) = q.s := by rw [Int.add_zero]; exact fresh_same ht.fresh h.opn
    have hd : q.s.done r (q.now + 0) (q.went.getD call.toNat 0) e = q.s := by
      unfold SB.done
      rw [hl, if_pos (fun x => hne x.symm)]
    have hs : (q.sw r ⟨2, 0, call, e⟩).s = q.s := by
      unfold SPlay.sw
      rw [if_neg (show ¬ ((2 : Int) = 0) by decide), if_neg (show ¬ ((2 : Int) = 1) by decide)]
      exact hd
    subst hr
    refine ⟨?_, ?_⟩
    · show (q.sw r ⟨2, 0, call, e⟩).s.chs = _
      rw [hs]
    · show q.out ++ [⟨q.code r ⟨2, 0, call, e⟩, q.state r ⟨2, 0, call, e⟩, (q.sw r ⟨2, 0, call, e⟩).s.cnt, (q.sw r ⟨2, 0, call, e⟩).s.cleared⟩] = _
      rw [hs]
      rfl

end Go.Proofs.Ytcjklacfoldaoaa
