/- PlayCalls as plain data, and its contract. Conditions: the calls are within the bounds, the window does not roll, no request panics unless the law of a panic is at hand. -/
import Derived.Test.YtcjklacfoldaoaaExecC
import Derived.Test.YtcjklacfoldaoaaIdle
import Derived.Test.YtcjklacfoldaoaaPlayN
import Derived.Test.YtcjklacfoldaoaaNewB
import Derived.Deep.DeepCutAuto
import Derived.Deep.LoopGhost
import Derived.Deep.AppendLies
import Derived.Deep.CutBlock
namespace Go.Proofs.Ytcjklacfoldaoaa
open Go.RowKit
attribute [local go_sem ↓] Go.wp_at_zero Go.wp_at_succ

/-- A row of calls can be read. -/
def CallsAt (w : World) (v : Value) (l : List Call) : Prop :=
  ∃ p cap, v = .slice p l.length cap ∧ ∀ (i : Nat) (x : Call), l[i]? = some x → ∃ b o : Nat, p = some ⟨b, o, none⟩ ∧ b < w.heap.size ∧ ∀ (j : Nat) (u : Value), (callRow x)[j]? = some u → w.cell? ⟨b, o + i * 5 + j, none⟩ = some u
def toldFlat (l : List Told) : List Value := l.flatMap toldRow
theorem toldFlat_snoc (l : List Told) (x : Told) : toldFlat (l ++ [x]) = toldFlat l ++ toldRow x := by simp [toldFlat]

structure PC where
  c : CB
  now : Int
  chs : List (Int × Int)
  out : List Told
namespace PC
def start (r : Rules) (now : Int) : PC := ⟨(freshCB r).newGen now, now, [], []⟩
def step (r : Rules) (p : PC) (k : Call) : PC :=
  ⟨execC r p.c (p.now + k.wait) k, execNow p.c (p.now + k.wait) k, p.chs ++ execChs r p.c (p.now + k.wait) k, p.out ++ [{ execTold p.c (p.now + k.wait) k with cnt := (execC r p.c (p.now + k.wait) k).rc.tot }]⟩
def run (r : Rules) (p : PC) (l : List Call) : PC := l.foldl (step r) p
structure Can (p : PC) (k : Call) : Prop where
  wait0 : 0 ≤ k.wait
  long0 : 0 ≤ k.long
  now0 : -3000000000000000000 ≤ p.now
  now1 : p.now + k.wait + k.long ≤ 3000000000000000000
  err0 : 0 ≤ k.err
  err1 : k.err ≤ 6
def Fine (r : Rules) : PC → List Call → Prop
  | _, [] => True
  | p, k :: l => p.Can k ∧ Fine r (p.step r k) l
theorem run_drop (r : Rules) (p : PC) {l : List Call} {i : Nat} {a : Call} (h : l[i]? = some a) : run r p (l.drop i) = run r (p.step r a) (l.drop (i + 1)) := by
  have hi : i < l.length := by
    rcases Nat.lt_or_ge i l.length with h' | h'
    · exact h'
    · rw [List.getElem?_eq_none h'] at h; cases h
  rw [List.drop_eq_getElem_cons hi]
  rw [List.getElem?_eq_getElem hi] at h
  simp at h
  rw [h]; rfl
theorem fine_drop (r : Rules) (p : PC) {l : List Call} {i : Nat} {a : Call} (h : l[i]? = some a) (hf : Fine r p (l.drop i)) : p.Can a ∧ Fine r (p.step r a) (l.drop (i + 1)) := by
  have hi : i < l.length := by
    rcases Nat.lt_or_ge i l.length with h' | h'
    · exact h'
    · rw [List.getElem?_eq_none h'] at h; cases h
  rw [List.drop_eq_getElem_cons hi] at hf
  rw [List.getElem?_eq_getElem hi] at h
  simp at h
  rw [h] at hf
  exact hf
end PC

/-- The law of a request that panics. -/
def PanSaid : Prop := ∀ (L : Loc) (cr : Nat) (r : Rules) (c : CB) (now : Int) (chs : List (Int × Int)) (k : Call) (w : World), Sys w L cr r c now chs → chs.length ≤ 999990 → c.One → (c.look now).beforeCode = 0 →
    k.pan = true → 0 ≤ k.long → -3000000000000000000 ≤ now → now + k.long ≤ 3000000000000000000 →
    Calls Try.prog 49 #[.pointer (some ⟨L.cb, 0, none⟩), .pointer (some ⟨L.bd, 0, none⟩), .agg (callArr k)] w fun e w' =>
      e = .returned (.agg (toldArr ⟨true, 0, 0, true, Cnt.zero⟩)) ∧ Evo L r w cr w' ((c.look now).before1.after r (c.look now).gen (c.look now).rc.age 7 (now + k.long)) (now + k.long) (chs ++ c.lookTold now ++ (c.look now).before1.afterTold r (c.look now).gen (c.look now).rc.age 7 (now + k.long))

theorem CB.One.gen {c : CB} (h : c.One) (now : Int) : (c.look now).rc.age = 0 := (h.look now).2
/-- The thin package's execute, as one. -/
theorem execute_any (L : Loc) (cr : Nat) (r : Rules) (c : CB) (now : Int) (chs : List (Int × Int)) (k : Call) (w : World) (h : Sys w L cr r c now chs) (hlen : chs.length ≤ 999990) (ho : c.One) (hp : k.pan = false ∨ PanSaid)
    (l0 : 0 ≤ k.long) (n0 : -3000000000000000000 ≤ now) (n1 : now + k.long ≤ 3000000000000000000) (e0 : 0 ≤ k.err) (e1 : k.err ≤ 6) :
    Calls Try.prog 49 #[.pointer (some ⟨L.cb, 0, none⟩), .pointer (some ⟨L.bd, 0, none⟩), .agg (callArr k)] w fun e w' =>
      e = .returned (.agg (toldArr (execTold c now k))) ∧ Evo L r w cr w' (execC r c now k) (execNow c now k) (chs ++ execChs r c now k) := by
  unfold execTold execC execNow execChs execErr
  by_cases hc : (c.look now).beforeCode = 0
  · simp only [if_pos hc]
    rw [← List.append_assoc]
    cases hk : k.pan with
    | false =>
      simp only [Bool.false_eq_true, if_false]
      exact execute_ok L cr r c now chs k w h hlen (ho.win now) hc hk l0 n0 n1 e0 e1 ((ho.look now).before1.win _) (fun _ => by rw [ho.gen now]; exact (ho.look now).before1.hit _)
    | true =>
      simp only [if_true]
      rcases hp with hp | hp
      · rw [hk] at hp; cases hp
      · exact hp L cr r c now chs k w h hlen ho hc hk l0 n0 n1
  · simp only [if_neg hc]
    rw [List.append_nil]
    have := beforeCode_or _ hc
    exact execute_no L cr r c now chs k w h hlen (ho.win now) this

theorem CB.One.exec {c : CB} (h : c.One) (r : Rules) (now : Int) (k : Call) : (execC r c now k).One := by
  unfold execC
  split
  · exact (h.look now).before1.after r _ _ _ _
  · exact (h.look now).before1
theorem execChs_len (r : Rules) (c : CB) (now : Int) (k : Call) : (execChs r c now k).length ≤ 3 := by
  have h1 := CB.lookTold_len c now
  have h2 := CB.afterTold_len (c.look now).before1 r (c.look now).gen (c.look now).rc.age (execErr k) (now + k.long)
  unfold execChs
  rw [List.length_append]
  split
  · omega
  · simp; omega

end Go.Proofs.Ytcjklacfoldaoaa
