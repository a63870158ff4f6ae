/- A window of one bucket does not roll (plain), and PlayCalls over it. Conditions: the calls are within the bounds and take no time. -/
import Derived.Test.YtcjklacfoldaoaaGreatPartZ
import Derived.Test.YtcjklacfoldaoaaGreatNewR
import Derived.Test.YtcjklacfoldaoaaGreatInst
namespace Go.Proofs.YtcjklacfoldaoaaGreat
open Go.RowKit

/-- Rules that never trip: a fixed interval, or a window of buckets. -/
def winR (i b : Int) : Rules := ⟨⟨#[]⟩, 0, i, b, 0, 5, 0, false, 0, false, 0⟩
theorem winR_ok (i b : Int) : (winR i b).Ok := ⟨by show (0 : Int) ≤ 0; omega, by show (0 : Int) < 256; omega, by show (0 : Int) ≤ 0; omega, by show (0 : Int) < 256; omega⟩
theorem step_rules (i b i' b' : Int) (p : PC) (k : Call) : PC.step (winR i b) p k = PC.step (winR i' b') p k := rfl
theorem run_rules (i b i' b' : Int) (p : PC) (l : List Call) : PC.run (winR i b) p l = PC.run (winR i' b') p l := rfl
theorem fine_one {i b i' b' : Int} (l : List Call) {p : PC} (h : p.c.One) (hf : PC.Fine (winR i b) p l) (hp : ∀ k ∈ l, k.pan = false) : PC.FineR (winR i' b') p l := by
  induction l generalizing p with
  | nil => trivial
  | cons k l ih =>
    obtain ⟨f1, f2⟩ := hf
    have hk := hp k (by simp)
    refine ⟨f1, ⟨h.win _, hk, fun _ => (h.look _).before1.win _, fun _ _ => ?_⟩, ?_⟩
    · rw [h.gen (p.now + k.wait)]; exact (h.look _).before1.hit _
    · rw [step_rules i' b' i b]
      exact ih (h.exec (winR i b) (p.now + k.wait) k) f2 (fun x hx => hp x (by simp [hx]))
theorem fresh_one {b : Int} (hb : 0 < b) : freshR (winR b b) 1 = freshCB (winR b 0) := by
  unfold freshR freshCB intN
  rw [if_neg (show ¬ (winR b 0).interval ≤ 0 by show ¬ b ≤ 0; omega)]
  show (⟨mostN (winR b b), ((1 : Nat) : Int) * b, b, timN (winR b b), 0, 0, ⟨Cnt.zero, 0, List.replicate 1 Cnt.zero⟩, T0, T0⟩ : CB) = ⟨mostN (winR b 0), b, b, timN (winR b 0), 0, 0, ⟨Cnt.zero, 0, [Cnt.zero]⟩, T0, T0⟩
  rw [show ((1 : Nat) : Int) * b = b by omega]
  rfl
theorem buck_new {r : Rules} {N : Nat} (h : Buck r N) (rok : r.Ok) (h2 : r.timeout ≤ 1000000000000000000) : NewSaid r (freshR r N) :=
  fun bd bp rb rs cr now chs w hbed hrb hrs e1 e2 e3 hcr f1 f2 f3 f4 t0 t1 => newCb_roll bd bp rb rs cr now chs r N w h hbed hrb hrs e1 e2 e3 hcr f1 f2 f3 f4 rok h2 t0 t1
theorem buck_one {b : Int} (hb : 0 < b) (hb1 : b ≤ 1000000000000000) : Buck (winR b b) 1 :=
  ⟨hb, hb, by show b + b ≤ _; omega, Nat.le_refl _, by omega, by show (((1 : Nat) : Int) - 1) * b < b; simp; exact hb, by show b ≤ ((1 : Nat) : Int) * b; omega⟩

theorem one_play {b start : Int} {l : List Call} {va : Value} {w : World} (hb : 0 < b) (h : areCalls (winR b 0) start l = true) (hp : ∀ k ∈ l, k.pan = false) (ha : CallsAt w va l) :
    Calls Tryz.prog 11 #[rulesV (winR b b), .int .i64 start, va] w fun e w' =>
      ∃ vo vc st, e = .returned (.tuple #[vo, vc, st]) ∧ w'.ownsRow w.heap.size 40 10 vo (SC.run (winR b 0) (SC.start (winR b 0) start) l).out.length (toldFlat (SC.run (winR b 0) (SC.start (winR b 0) start) l).out) ∧ Below w.heap.size w w' := by
  obtain ⟨h1, h2, h3, h4, h5⟩ := areCalls_parts h
  have m := mild_of h1 (by show (0 : Int) ≤ 0; omega) (by show (0 : Int) < 4294967296; omega)
  obtain ⟨s0, s1⟩ := isTime_parts h2
  have ho : (SC.run (winR b 0) (SC.start (winR b 0) start) l).s.opn = false := look_opn0 h5
  obtain ⟨hf, hq⟩ := QRel.run m l (QRel.start m s0 s1) (by omega) h4 ho
  obtain ⟨_, _, _, hi, _⟩ := areRules_parts h1
  obtain ⟨_, b1⟩ := isTime_parts hi
  have hN : NewSaid (winR b b) (freshCB (winR b 0)) := by rw [← fresh_one hb]; exact buck_new (buck_one hb b1) (winR_ok b b) (by show (0 : Int) ≤ _; omega)
  have hone : (PC.start (winR b 0) start).c.One := ⟨by simp [PC.start, CB.newGen, RC.clear, freshCB], by simp [PC.start, CB.newGen, RC.clear]⟩
  have hfr : PC.FineR (winR b b) (PC.fresh (freshCB (winR b 0)) start) l := fine_one l hone hf hp
  have hp := playR_any (winR b b) start va l w (freshCB (winR b 0)) hN (by omega) (by omega) ha (by omega) hfr (CB.Idle.r hq.idle)
  refine hp.mono ?_
  rintro e w' ⟨vo, vc, rfl, hO, _, hB⟩
  refine ⟨vo, vc, _, rfl, ?_, hB⟩
  rw [← hq.out]
  exact hO

end Go.Proofs.YtcjklacfoldaoaaGreat
