/- The statements' TwoStep as plain data. No condition. -/
import Derived.Test.YtcjklacfoldaoaaSpecJ
import Derived.Test.YtcjklacfoldaoaaPlayM
namespace Go.Proofs.Ytcjklacfoldaoaa
open Go.RowKit

structure SPlay where
  s : SB
  now : Int
  went : List Int
  done : List Bool
  out : List Ans

namespace SPlay
def start (r : Rules) (now : Int) : SPlay := ⟨SB.new r now, now, [], [], []⟩
/-- A request is told done that has not gone, or has been told so. -/
def bad (p : SPlay) (a : Act) : Bool := a.kind == 2 && (decide (a.call < 0) || (decide ((p.went.length : Int) ≤ a.call) || p.done.getD a.call.toNat false))
/-- A round, all but its answer. -/
def sw (r : Rules) (p : SPlay) (a : Act) : SPlay :=
  if a.kind = 0 then { p with now := p.now + a.wait, s := p.s.look r (p.now + a.wait) }
  else if a.kind = 1 then { p with now := p.now + a.wait, s := (p.s.look r (p.now + a.wait)).allow1 r, went := if (p.s.look r (p.now + a.wait)).allowCode r = 0 then p.went ++ [(p.s.look r (p.now + a.wait)).cleared] else p.went, done := if (p.s.look r (p.now + a.wait)).allowCode r = 0 then p.done ++ [false] else p.done }
  else { p with now := p.now + a.wait, s := p.s.done r (p.now + a.wait) (p.went.getD a.call.toNat 0) a.err, done := p.done.set a.call.toNat true }
def code (r : Rules) (p : SPlay) (a : Act) : Int := if a.kind = 1 then (p.s.look r (p.now + a.wait)).allowCode r else 0
def state (r : Rules) (p : SPlay) (a : Act) : Int := if a.kind = 0 then (p.s.look r (p.now + a.wait)).state else -1
def act (r : Rules) (p : SPlay) (a : Act) : SPlay := { p.sw r a with out := p.out ++ [⟨p.code r a, p.state r a, (p.sw r a).s.cnt, (p.sw r a).s.cleared⟩] }
def run (r : Rules) : SPlay → List Act → Option SPlay
  | p, [] => some p
  | p, a :: l => if p.bad a then none else run r (p.act r a) l
end SPlay

/-- An act is within the bounds. -/
def actOk (a : Act) : Bool := decide (0 ≤ a.kind) && (decide (a.kind ≤ 2) && (isWait a.wait && isError a.err))
def twoOk (r : Rules) (start : Int) (l : List Act) : Bool := match SPlay.run r (SPlay.start r start) l with | none => false | some p => !p.s.opn
def areActs (r : Rules) (start : Int) (l : List Act) : Bool := areRules r && (isTime start && (decide (l.length ≤ 2000) && (l.all actOk && twoOk r start l)))

namespace SPlay
theorem sw_out (r : Rules) (p : SPlay) (a : Act) : (p.sw r a).out = p.out := by
  unfold sw; split
  · rfl
  · split <;> rfl
theorem act_eq (r : Rules) (p : SPlay) (a : Act) : { p.sw r a with out := (p.sw r a).out ++ [⟨p.code r a, p.state r a, (p.sw r a).s.cnt, (p.sw r a).s.cleared⟩] } = p.act r a := by
  unfold act; rw [sw_out]
theorem run_drop (r : Rules) (p : SPlay) {l : List Act} {i : Nat} {a : Act} (h : l[i]? = some a) : run r p (l.drop i) = if p.bad a then none else run r (p.act r a) (l.drop (i + 1)) := by
  have hi : i < l.length := by
    rcases Nat.lt_or_ge i l.length with h' | h'
    · exact h'
    · rw [List.getElem?_eq_none h'] at h; cases h
  rw [List.drop_eq_getElem_cons hi]
  rw [List.getElem?_eq_getElem hi] at h
  simp at h
  rw [h, run]
theorem sw_now (r : Rules) (p : SPlay) (a : Act) : (p.sw r a).now = p.now + a.wait := by
  unfold sw; split
  · rfl
  · split <;> rfl
theorem allow_three {s : SB} (h : s.Three) (r : Rules) : (s.allow1 r).Three := by
  unfold SB.allow1; split
  · exact h
  · exact h
theorem sw_three {p : SPlay} (h : p.s.Three) (r : Rules) (a : Act) : (p.sw r a).s.Three := by
  unfold sw; split
  · exact h.look r _
  · split
    · exact allow_three (h.look r _) r
    · exact h.done r _ _ _
theorem sw_sizes (r : Rules) (p : SPlay) (a : Act) : (p.sw r a).s.chs.length ≤ p.s.chs.length + 2 ∧ (p.sw r a).went.length ≤ p.went.length + 1 ∧ (p.done.length = p.went.length → (p.sw r a).done.length = (p.sw r a).went.length) := by
  have h1 := SB.look_chs p.s r (p.now + a.wait)
  unfold sw; split
  · exact ⟨by dsimp only; omega, by dsimp only; omega, fun h => h⟩
  · split
    · refine ⟨?_, ?_, ?_⟩
      · dsimp only
        have : ((p.s.look r (p.now + a.wait)).allow1 r).chs.length = (p.s.look r (p.now + a.wait)).chs.length := by unfold SB.allow1; split <;> rfl
        omega
      · dsimp only; split <;> simp
      · intro h; dsimp only; split <;> simp [h]
    · exact ⟨SB.done_chs _ _ _ _ _, by dsimp only; omega, fun h => by simpa using h⟩
theorem act_s (r : Rules) (p : SPlay) (a : Act) : (p.act r a).s = (p.sw r a).s ∧ (p.act r a).now = p.now + a.wait ∧ (p.act r a).went = (p.sw r a).went ∧ (p.act r a).done = (p.sw r a).done ∧ (p.act r a).out.length = p.out.length + 1 := ⟨rfl, sw_now r p a, rfl, rfl, by simp [act]⟩
end SPlay

end Go.Proofs.Ytcjklacfoldaoaa
