/- What every law about scripts of two steps begins with: the sizes, the bounds, and PlayTwoStep within them. Conditions: the acts can be read, the rules' numbers are in their types' ranges. -/
import Derived.Test.YtcjklacfoldaoaaSpecN
import Derived.Test.YtcjklacfoldaoaaWorks
import Derived.Test.YtcjklacfoldaoaaSame
import Derived.Test.YtcjklacfoldaoaaAlike
namespace Go.Proofs.Ytcjklacfoldaoaa
open Go.RowKit

theorem fits_yes (r : Rules) (w : World) (h : r.name.size ≤ 2147483647) : Calls Try.prog 16 #[rulesV r] w fun e w' => e = .returned (.bool true) ∧ Below w.heap.size w w' := by
  have := fits_any r w
  rw [decide_eq_true (by omega)] at this
  exact this
theorem fits_no (r : Rules) (w : World) (h : ¬ r.name.size ≤ 2147483647) : Calls Try.prog 16 #[rulesV r] w fun e w' => e = .returned (.bool false) ∧ Below w.heap.size w w' := by
  have := fits_any r w
  rw [decide_eq_false (by omega)] at this
  exact this

/-- What PlayTwoStep does within the bounds. -/
structure Said (r : Rules) (start : Int) (l : List Act) (q : SPlay) : Prop where
  run : SPlay.run r (SPlay.start r start) l = some q
  opn : q.s.opn = false
  chain : Chain q.s
  counts : ∀ x ∈ q.out, AddOk x.cnt
  len : q.out.length = l.length
  chs : q.s.chs.length ≤ 4000
  short : l.length ≤ 2000
  play : ∀ (va : Value) (w : World), ActsAt w va l → Calls Try.prog 19 #[rulesV r, .int .i64 start, va] w fun e w' =>
      ∃ vo vc, e = .returned (.tuple #[vo, vc]) ∧ w'.ownsRow w.heap.size 39 9 vo q.out.length (ansFlat q.out) ∧ w'.ownsRow w.heap.size 34 2 vc q.s.chs.length (chFlat q.s.chs) ∧ Below w.heap.size w w'

theorem run_sizes {r : Rules} (l : List Act) {q q' : SPlay} (hr : SPlay.run r q l = some q') : q'.out.length = q.out.length + l.length ∧ q'.s.chs.length ≤ q.s.chs.length + 2 * l.length := by
  induction l generalizing q with
  | nil => simp [SPlay.run] at hr; subst hr; simp
  | cons a l ih =>
    unfold SPlay.run at hr
    split at hr
    · cases hr
    · obtain ⟨x, y⟩ := ih hr
      obtain ⟨r1, r2, r3, r4, r5⟩ := SPlay.act_s r q a
      obtain ⟨q1, q2, q3⟩ := SPlay.sw_sizes r q a
      rw [r1] at y
      rw [r5] at x
      simp only [List.length_cons]
      omega

theorem said {r : Rules} {start : Int} {l : List Act} (rok : r.Ok) (h : areActs r start l = true) (m0 : 0 ≤ r.most) (m1 : r.most < 4294967296) : ∃ q, Said r start l q := by
  obtain ⟨q, hl⟩ := law h m0 m1
  obtain ⟨h1, h2, h3, h4, q', hq', ho⟩ := areActs_parts h
  rw [hl.run] at hq'
  cases hq'
  obtain ⟨_, _, hb, hi, ht⟩ := areRules_parts h1
  obtain ⟨a, b⟩ := isTime_parts hi
  obtain ⟨c, d⟩ := isTime_parts ht
  obtain ⟨s0, s1⟩ := isTime_parts h2
  obtain ⟨z1, z2⟩ := run_sizes l hl.run
  have e0 : (SPlay.start r start).out.length = 0 := rfl
  have e1 : (SPlay.start r start).s.chs.length = 0 := rfl
  refine ⟨q, hl.run, ho, Chain.run l (Chain.start r start) hl.run, law_counts h m0 m1 hl.run, by omega, by omega, h3, fun va w ha => ?_⟩
  have hp := play_any r start va l w hb rok (by omega) (by omega) (by omega) (by omega) ha (by omega) (by rw [hl.gen]; exact hl.fine)
  rw [hl.gen, hl.rel.out, hl.rel.chs] at hp
  exact hp

end Go.Proofs.Ytcjklacfoldaoaa
