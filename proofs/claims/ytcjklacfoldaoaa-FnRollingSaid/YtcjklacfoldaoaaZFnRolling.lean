import Derived.BigQuiet
import Derived.Deep.AppendLies
import Derived.Deep.LoopGhost
import Derived.Deep.DeepCutAuto
import Derived.Test.YtcjklacfoldaoaaRollZ
import Derived.Test.YtcjklacfoldaoaaRows
import Derived.Test.YtcjklacfoldaoaaOpen
/- What calls that take no time are told over a window that rolls (plain). Conditions: the calls are within the bounds, two buckets or more. -/
namespace Go.Proofs.Ytcjklacfoldaoaa
open Go.RowKit

/-- The bucket of each call, and whether it is a success. -/
def hist (b start : Int) : Int → List Call → List (Int × Bool)
  | _, [] => []
  | now, c :: l => ((now + c.wait - start) / b, c.err == 0) :: hist b start (now + c.wait) l
def sumw (l : List Call) : Int := l.foldl (fun n c => n + c.wait) 0
theorem foldw (l : List Call) (n : Int) : l.foldl (fun n c => n + c.wait) n = n + sumw l := by
  unfold sumw
  induction l generalizing n with
  | nil => simp
  | cons c l ih =>
    simp only [List.foldl_cons]
    rw [ih (n + c.wait), ih (0 + c.wait)]
    omega
theorem sumw_cons (c : Call) (l : List Call) : sumw (c :: l) = c.wait + sumw l := by
  show (c :: l).foldl (fun n c => n + c.wait) 0 = _
  rw [List.foldl_cons, foldw]
  omega
theorem sumw_take {l : List Call} {i : Nat} {c : Call} (h : l[i]? = some c) : sumw (l.take (i + 1)) = sumw (l.take i) + c.wait := by
  induction l generalizing i with
  | nil => simp at h
  | cons a l ih =>
    cases i with
    | zero => simp at h; subst h; simp [sumw]
    | succ i =>
      simp at h
      rw [List.take_succ_cons, List.take_succ_cons, sumw_cons, sumw_cons, ih h]
      omega
theorem hist_len (b start now : Int) (l : List Call) : (hist b start now l).length = l.length := by
  induction l generalizing now with
  | nil => rfl
  | cons c l ih => simp [hist, ih]
theorem hist_get {b start now : Int} {l : List Call} {i : Nat} {c : Call} (h : l[i]? = some c) : (hist b start now l)[i]? = some ((now + sumw (l.take i) + c.wait - start) / b, c.err == 0) := by
  induction l generalizing now i with
  | nil => simp at h
  | cons a l ih =>
    cases i with
    | zero => simp at h; subst h; simp [hist, sumw]
    | succ i =>
      simp at h
      rw [hist, List.getElem?_cons_succ, ih h, List.take_succ_cons, sumw_cons]
      rw [show now + a.wait + sumw (l.take i) = now + (a.wait + sumw (l.take i)) by omega]
theorem sumw_nonneg {l : List Call} (h : l.all instOk = true) : 0 ≤ sumw l := by
  induction l with
  | nil => simp [sumw]
  | cons c l ih =>
    simp only [List.all_cons, Bool.and_eq_true] at h
    have := (instOk_parts h.1).1
    have := ih h.2
    rw [sumw_cons]
    omega
theorem sumw_bound {l : List Call} (h : l.all instOk = true) : sumw l ≤ 1000000000000000 * l.length := by
  induction l with
  | nil => simp [sumw]
  | cons c l ih =>
    simp only [List.all_cons, Bool.and_eq_true] at h
    have := (instOk_parts h.1).2.1
    have := ih h.2
    rw [sumw_cons, List.length_cons]
    omega

structure PInv (k : Nat) (b start : Int) (h : List (Int × Bool)) (p : PC) : Prop where
  ri : RI k p.c p.now
  st0 : p.c.state = 0
  per : p.c.period = b
  stt : p.c.start = start
  inv : RInv k h p.c.rc
  ag : p.c.rc.age ≤ (p.now - start) / b

theorem PInv.ageAt {k : Nat} {b start : Int} {h : List (Int × Bool)} {p : PC} (i : PInv k b start h p) (now : Int) : p.c.ageAt now = (now - start) / b := by
  unfold CB.ageAt
  rw [if_neg (by have := i.ri.per; omega), i.stt, i.per]
/-- The counts behind a call. -/
def rcNext (b start : Int) (p : PC) (c : Call) : RC := (p.c.rc.grow ((p.now + c.wait - start) / b)).call (c.err == 0)

theorem PInv.rc {k : Nat} {b start : Int} {h : List (Int × Bool)} {p : PC} (i : PInv k b start h p) (hk : 2 ≤ k) (hh : h.length ≤ 1000) (hb : 0 < b) {c : Call} (w0 : 0 ≤ c.wait) (n1 : p.now + c.wait ≤ 1000000000000000000 + start) :
    RInv k (h ++ [((p.now + c.wait - start) / b, c.err == 0)]) (rcNext b start p c) ∧ (rcNext b start p c).age = (p.now + c.wait - start) / b := by
  have s1 := i.ri.start1
  rw [i.stt] at s1
  have m1 : (p.now - start) / b ≤ (p.now + c.wait - start) / b := Int.ediv_le_ediv hb (by omega)
  have m2 : (p.now + c.wait - start) / b ≤ 1000000000000000000 := Int.le_trans (Int.ediv_le_self _ (by omega)) (by omega)
  obtain ⟨g1, g2⟩ := i.inv.grow (by omega) (by omega) (Int.le_trans i.ag m1) m2
  obtain ⟨c1, c2⟩ := g1.call (by omega) (by omega) (c.err == 0)
  rw [g2] at c1 c2
  exact ⟨c1, c2⟩

theorem exec_live {k : Nat} {b start : Int} {h : List (Int × Bool)} {p : PC} (i : PInv k b start h p) (hk : 2 ≤ k) (hk1 : k ≤ 1000) (i0 b0 tim trip bound : Int) {c : Call} (hc : instOk c = true) (n0 : -3000000000000000000 ≤ p.now) (n1 : p.now + c.wait ≤ 3000000000000000000) :
    execC (winT i0 b0 tim trip bound) p.c (p.now + c.wait) c = (if (!(c.err == 0) && tripB (winT i0 b0 tim trip bound) (rcNext b start p c).tot) = true then ({ p.c with rc := rcNext b start p c, state := 2 } : CB).newGen (p.now + c.wait) else { p.c with rc := rcNext b start p c }) ∧
    (p.c.look (p.now + c.wait)).beforeCode = 0 := by
  obtain ⟨w0, _, hl, _, _, hpn⟩ := instOk_parts hc
  have hJ : RJ k p.c (p.now + c.wait) := i.ri.toRJ.later (by omega)
  have hL := hJ.look hk hk1 (by omega) (by omega)
  have hB := hL.before1
  have e1 : p.c.look (p.now + c.wait) = { p.c with rc := p.c.rc.grow ((p.now + c.wait - start) / b) } := by
    unfold CB.look
    rw [if_pos i.st0, if_neg (by simp [i.ri.expz i.st0]), if_pos (by rw [i.ri.len]; exact hk), i.ageAt]
  have e2 : (p.c.look (p.now + c.wait)).beforeCode = 0 := by
    rw [e1]
    unfold CB.beforeCode
    have s := i.st0
    rw [if_neg (show ¬ p.c.state = 2 by omega), if_neg (fun q => by have : p.c.state = 1 := q.1; omega)]
  have e3 : (p.c.look (p.now + c.wait)).before1 = { p.c with rc := (p.c.rc.grow ((p.now + c.wait - start) / b)).req } := by
    rw [e1]
    unfold CB.before1
    have s := i.st0
    rw [if_neg (show ¬ p.c.state = 2 by omega), if_neg (fun q => by have : p.c.state = 1 := q.1; omega)]
  refine ⟨?_, e2⟩
  unfold execC
  rw [if_pos e2, show p.now + c.wait + c.long = p.now + c.wait by omega]
  unfold CB.after
  rw [hB.same hk, e3, e1]
  have ee : execErr c = c.err := by unfold execErr; rw [hpn]; rfl
  have eo : outB (winT i0 b0 tim trip bound) (execErr c) = false := rfl
  have eg : goodB (winT i0 b0 tim trip bound) (execErr c) = (c.err == 0) := by
    rw [ee]; rfl
  rw [if_neg (fun q => q rfl), eo, if_neg (by simp), eg]
  unfold rcNext RC.call
  cases hg : c.err == 0 with
  | true =>
    unfold CB.onSucc
    rw [if_pos rfl, if_pos i.st0]
    simp
    rfl
  | false =>
    unfold CB.onFail
    rw [if_neg (by simp), if_pos i.st0]
    simp only [Bool.not_false, Bool.true_and, Bool.false_eq_true, if_false]
    rfl

theorem told_live {p : PC} {c : Call} (hc : instOk c = true) (h0 : (p.c.look (p.now + c.wait)).beforeCode = 0) : (execTold p.c (p.now + c.wait) c).ran = true ∧ execNow p.c (p.now + c.wait) c = p.now + c.wait := by
  obtain ⟨_, _, hl, _, _, hpn⟩ := instOk_parts hc
  constructor
  · unfold execTold
    rw [if_pos h0, if_neg (by simp [hpn])]
  · unfold execNow
    rw [if_pos h0]; omega

/-- A breaker that does not trip goes on. -/
theorem PInv.step {k : Nat} {b start : Int} {h : List (Int × Bool)} {p : PC} (i : PInv k b start h p) (hk : 2 ≤ k) (hk1 : k ≤ 1000) (hh : h.length ≤ 1000) (hb : 0 < b) {i0 b0 tim trip bound : Int} {c : Call} (hc : instOk c = true) (n0 : -1000000000000000 ≤ p.now) (n1 : p.now + c.wait ≤ 1000000000000000000)
    (_s0 : -1000000000000000 ≤ start) (_s1 : start ≤ 1000000000000000) (nb : p.now + c.wait ≤ 1000000000000000000 + start) (ht : (!(c.err == 0) && tripB (winT i0 b0 tim trip bound) (rcNext b start p c).tot) = false) :
    PInv k b start (h ++ [((p.now + c.wait - start) / b, c.err == 0)]) (PC.step (winT i0 b0 tim trip bound) p c) ∧ (PC.step (winT i0 b0 tim trip bound) p c).now = p.now + c.wait ∧
    (PC.step (winT i0 b0 tim trip bound) p c).chs = p.chs ∧ (PC.step (winT i0 b0 tim trip bound) p c).c.state = 0 ∧
    ∃ t, (PC.step (winT i0 b0 tim trip bound) p c).out = p.out ++ [t] ∧ t.ran = true ∧ t.cnt = (rcNext b start p c).tot := by
  obtain ⟨w0, _, hl, _, _, hpn⟩ := instOk_parts hc
  obtain ⟨e1, e2⟩ := exec_live i hk hk1 i0 b0 tim trip bound hc (by omega) (by omega)
  rw [ht, if_neg (by simp)] at e1
  obtain ⟨t1, t2⟩ := told_live (p := p) hc e2
  obtain ⟨r1, r2⟩ := i.rc hk hh hb w0 nb (c := c)
  have hJ : RJ k p.c (p.now + c.wait) := i.ri.toRJ.later (by omega)
  have hx := (RI.exec (r := winT i0 b0 tim trip bound) hJ hk hk1 (by omega) (by omega) hl (k := c)).1
  have ec : (PC.step (winT i0 b0 tim trip bound) p c).c = { p.c with rc := rcNext b start p c } := e1
  have en : (PC.step (winT i0 b0 tim trip bound) p c).now = p.now + c.wait := t2
  have eh : (PC.step (winT i0 b0 tim trip bound) p c).chs = p.chs := by
    show p.chs ++ execChs (winT i0 b0 tim trip bound) p.c (p.now + c.wait) c = p.chs
    have hL := hJ.look hk hk1 (by omega) (by omega)
    have hB := hL.before1
    have st1 : (p.c.look (p.now + c.wait)).before1.state = 0 := by
      have q : (p.c.look (p.now + c.wait)).state = 0 := by
        unfold CB.look
        rw [if_pos i.st0, if_neg (by simp [i.ri.expz i.st0])]
        split <;> exact i.st0
      unfold CB.before1
      split
      · exact q
      · split
        · exact q
        · exact q
    have z : execChs (winT i0 b0 tim trip bound) p.c (p.now + c.wait) c = [] := by
      unfold execChs
      rw [if_pos e2, show p.now + c.wait + c.long = p.now + c.wait by omega]
      have z1 : p.c.lookTold (p.now + c.wait) = [] := by unfold CB.lookTold; rw [if_neg (by have := i.st0; omega)]
      rw [z1, List.nil_append]
      unfold CB.afterTold
      rw [hB.same hk]
      have z2 : (p.c.look (p.now + c.wait)).before1.lookTold (p.now + c.wait) = [] := by unfold CB.lookTold; rw [if_neg (by omega)]
      rw [z2, List.nil_append]
      split
      · rfl
      · split
        · rfl
        · split
          · unfold CB.onSuccTold
            rw [if_neg (fun q => by have := q.1; omega)]
          · next hgd =>
            have ee : execErr c = c.err := by unfold execErr; rw [hpn]; rfl
            have eg : goodB (winT i0 b0 tim trip bound) (execErr c) = (c.err == 0) := by rw [ee]; rfl
            rw [eg] at hgd
            have hf : (c.err == 0) = false := by simpa using hgd
            rw [hf, Bool.not_false, Bool.true_and] at ht
            unfold CB.onFailTold
            rw [if_pos st1]
            have e3 : (((p.c.look (p.now + c.wait)).before1).put Cnt.fail (p.c.look (p.now + c.wait)).rc.age).rc = rcNext b start p c := by
              have e1 : p.c.look (p.now + c.wait) = { p.c with rc := p.c.rc.grow ((p.now + c.wait - start) / b) } := by
                unfold CB.look
                rw [if_pos i.st0, if_neg (by simp [i.ri.expz i.st0]), if_pos (by rw [i.ri.len]; exact hk), i.ageAt]
              rw [e1]
              unfold CB.before1
              have s := i.st0
              rw [if_neg (show ¬ p.c.state = 2 by omega), if_neg (fun q => by have : p.c.state = 1 := q.1; omega)]
              unfold rcNext RC.call
              rw [hf]
              rfl
            rw [e3, ht]
            rfl
    rw [z, List.append_nil]
  refine ⟨⟨?_, ?_, ?_, ?_, ?_, ?_⟩, en, eh, by rw [ec]; exact i.st0, ⟨_, rfl, t1, ?_⟩⟩
  · rw [en]; exact hx
  · rw [ec]; exact i.st0
  · rw [ec]; exact i.per
  · rw [ec]; exact i.stt
  · rw [ec]; exact r1
  · rw [ec, en]; exact Int.le_of_eq r2
  · show (execC (winT i0 b0 tim trip bound) p.c (p.now + c.wait) c).rc.tot = _
    rw [e1]

/-- What a request is told of the counts. -/
structure CntIs (k : Nat) (h : List (Int × Bool)) (a : Int) (t : Cnt) : Prop where
  r : t.r = cn (fun x => inW k a x && true) h
  s : t.s = cn (fun x => inW k a x && x.2) h
  f : t.f = cn (fun x => inW k a x && !x.2) h
theorem RInv.cnt {k : Nat} {h : List (Int × Bool)} {c : RC} (i : RInv k h c) : CntIs k h c.age c.tot := ⟨i.lr.tot, i.ls.tot, i.lf.tot⟩

theorem never_run {k : Nat} {b start i0 b0 : Int} (hk : 2 ≤ k) (hk1 : k ≤ 1000) (hb : 0 < b) (s0 : -1000000000000000 ≤ start) (s1 : start ≤ 1000000000000000) (l : List Call) {h : List (Int × Bool)} {p : PC} (i : PInv k b start h p) (m : Nat) (hm : m + l.length ≤ 200) (hh : h.length = m) (ho : p.out.length = m) (hch : p.chs = [])
    (hl : l.all instOk = true) (n0 : -1000000000000000 ≤ p.now) (n1 : p.now ≤ start + 1000000000000000 * m) :
    (PC.run (winT i0 b0 0 5 0) p l).chs = [] ∧ (PC.run (winT i0 b0 0 5 0) p l).c.state = 0 ∧ (∀ j : Nat, j < m → (PC.run (winT i0 b0 0 5 0) p l).out[j]? = p.out[j]?) ∧
    ∀ (j : Nat) (x : Int × Bool), (hist b start p.now l)[j]? = some x → ∃ t, (PC.run (winT i0 b0 0 5 0) p l).out[m + j]? = some t ∧ CntIs k (h ++ (hist b start p.now l).take (j + 1)) x.1 t.cnt := by
  induction l generalizing h p m with
  | nil => exact ⟨hch, i.st0, fun _ _ => rfl, fun j x hx => by simp [hist] at hx⟩
  | cons c l ih =>
    simp only [List.all_cons, Bool.and_eq_true] at hl
    simp only [List.length_cons] at hm
    obtain ⟨w0, w1, _, _, _, _⟩ := instOk_parts hl.1
    have ht : (!(c.err == 0) && tripB (winT i0 b0 0 5 0) (rcNext b start p c).tot) = false := by
      have : tripB (winT i0 b0 0 5 0) (rcNext b start p c).tot = false := rfl
      rw [this, Bool.and_false]
    obtain ⟨q1, q2, q3, q4, t, q5, q6, q7⟩ := i.step hk hk1 (by omega) hb (i0 := i0) (b0 := b0) hl.1 n0 (by omega) s0 s1 (by omega) ht
    obtain ⟨r1, r2⟩ := i.rc hk (by omega) hb w0 (by omega) (c := c)
    obtain ⟨y1, y2, y3, y4⟩ := ih q1 (m + 1) (by omega) (by simp [hh]) (by rw [q5]; simp [ho]) (q3.trans hch) hl.2 (by rw [q2]; omega) (by rw [q2]; omega)
    rw [q2] at y4
    refine ⟨y1, y2, fun j hj => (y3 j (by omega)).trans (by rw [q5, List.getElem?_append_left (by omega)]), fun j x hx => ?_⟩
    cases j with
    | zero =>
      simp only [hist, List.getElem?_cons_zero, Option.some.injEq] at hx
      subst hx
      refine ⟨t, (y3 m (by omega)).trans (by rw [q5, ← ho]; simp), ?_⟩
      rw [q7]
      have := r1.cnt
      rw [r2] at this
      simpa [hist] using this
    | succ j =>
      simp only [hist, List.getElem?_cons_succ] at hx
      obtain ⟨u, u1, u2⟩ := y4 j x hx
      refine ⟨u, by rw [show m + (j + 1) = m + 1 + j by omega]; exact u1, ?_⟩
      simpa [hist, List.append_assoc] using u2

end Go.Proofs.Ytcjklacfoldaoaa

/- The rows that FnRolling makes, and PlayCalls over them. Conditions: the calls are within the bounds. -/
namespace Go.Proofs.Ytcjklacfoldaoaa
open Go.RowKit

def strip (k : Call) : Call := ⟨k.wait, 0, 0, k.err, false⟩
def callFlat (l : List Call) : List Value := l.flatMap callRow
theorem callFlat_snoc (l : List Call) (a : Call) : callFlat (l ++ [a]) = callFlat l ++ callRow a := by simp [callFlat]
theorem callFlat_get {l : List Call} {i : Nat} {x : Call} (h : l[i]? = some x) {j : Nat} (hj : j < 5) : (callFlat l)[i * 5 + j]? = (callRow x)[j]? := by
  induction l generalizing i with
  | nil => simp at h
  | cons a l ih =>
    cases i with
    | zero =>
      simp at h
      subst h
      simp only [callFlat, List.flatMap_cons, Nat.zero_mul, Nat.zero_add]
      rw [List.getElem?_append_left (by simpa [callRow] using hj)]
    | succ i =>
      have e : (i + 1) * 5 + j = (callRow a).length + (i * 5 + j) := by simp [callRow]; omega
      simp only [callFlat, List.flatMap_cons]
      rw [e, List.getElem?_append_right (by omega)]
      have := ih (i := i) (by simpa using h)
      simpa [callFlat] using this
theorem own_calls {w : World} {base : Nat} {v : Value} {l : List Call} (h : w.ownsRow base 57 5 v l.length (callFlat l)) : CallsAt w v l := by
  by_cases hl : l.length = 0
  · obtain ⟨p, cap, rfl⟩ := row_len h
    refine ⟨p, cap, rfl, fun i x hx => ?_⟩
    rw [List.eq_nil_of_length_eq_zero hl] at hx
    simp at hx
  · obtain ⟨g, cap, cs, rfl, hg, _, _, hc⟩ := row_slice h hl
    refine ⟨_, cap, rfl, fun i x hx => ⟨g, 0, rfl, hg, fun j u hu => ?_⟩⟩
    have hj : j < 5 := by
      rcases Nat.lt_or_ge j 5 with q | q
      · exact q
      · rw [List.getElem?_eq_none (by simpa [callRow] using q)] at hu; cases hu
    rw [Nat.zero_add]
    exact hc _ _ ((callFlat_get hx hj).trans hu)
def ageRow (x : Int × Bool) : Value := .int .i64 x.1
theorem infoCall : (Try.prog.info? 57).map (fun i => (i.zero, i.size, i.bytes)) = some (some (.agg #[.int .i64 0, .int .i64 0, .int .i64 0, .int .i64 0, .bool false]), 5, 40) := by kernel_rfl
theorem infoI64 : (Try.prog.info? 2).map (fun i => (i.zero, i.size, i.bytes)) = some (some (.int .i64 0), 1, 8) := by kernel_rfl
theorem hist_strip (b start now : Int) (l : List Call) : hist b start now (l.map strip) = hist b start now l := by
  induction l generalizing now with
  | nil => rfl
  | cons c l ih => simp only [List.map_cons, hist, ih]; rfl
theorem grown_heap {wx wy : World} {row : Option Nat} (g : wx.grownBy wy row) {b : Nat} {x : Obj} (hx : wx.heap[b]? = some x) (hne : row ≠ some b) : wy.heap[b]? = some x := (g.block b (size_of_heap hx) (Ne.symm hne)).trans hx
theorem grown_row {wx wy : World} {v v' : Value} (g : wx.grownBy wy v.ownBlock) {base : Nat} {e : TypeId} {size n : Nat} {xs : List Value} (h : wx.ownsRow base e size v' n xs) (hne : v'.ownBlock = none ∨ v'.ownBlock ≠ v.ownBlock) : wy.ownsRow base e size v' n xs := by
  refine owns_keep h fun k hk => g.block k (h.lt k hk).2 ?_
  rcases hne with q | q
  · rw [q] at hk; cases hk
  · rw [← hk]; exact q

/-- What PlayCalls does with rules that never trip. -/
structure RSaid (k : Nat) (b start : Int) (l : List Call) (q : PC) : Prop where
  len : q.out.length = l.length
  chs : q.chs = []
  st : q.c.state = 0
  cnt : ∀ (j : Nat) (x : Int × Bool), (hist b start start l)[j]? = some x → ∃ t, q.out[j]? = some t ∧ CntIs k ((hist b start start l).take (j + 1)) x.1 t.cnt
  play : ∀ (va : Value) (w : World), CallsAt w va l → Calls Try.prog 26 #[rulesV (winT ((k : Int) * b) b 0 5 0), .int .i64 start, va] w fun e w' =>
      ∃ vo vc, e = .returned (.tuple #[vo, vc, .int .i64 q.c.state]) ∧ w'.ownsRow w.heap.size 63 10 vo q.out.length (toldFlat q.out) ∧ w'.ownsRow w.heap.size 34 2 vc q.chs.length (chFlat q.chs) ∧ Below w.heap.size w w'

theorem fresh_inv {k : Nat} {b start i0 tim trip bound : Int} (hk : 2 ≤ k) (hb : 0 < b) (s0 : -1000000000000000 ≤ start) : PInv k b start [] (PC.fresh (freshR (winT i0 b tim trip bound) k) start) := by
  have hp : 0 < timN (winT i0 b tim trip bound) := by unfold timN; split <;> omega
  have hi : RI k (PC.fresh (freshR (winT i0 b tim trip bound) k) start).c (PC.fresh (freshR (winT i0 b tim trip bound) k) start).now := newGen_ri (c := freshR (winT i0 b tim trip bound) k) hk (by simp [freshR]) (.inl rfl) hb hp (by omega)
  refine ⟨hi, rfl, rfl, rfl, ?_, ?_⟩
  · have := RInv.start k
    have e : (PC.fresh (freshR (winT i0 b tim trip bound) k) start).c.rc = ⟨Cnt.zero, 0, List.replicate k Cnt.zero⟩ := by
      simp [PC.fresh, CB.newGen, RC.clear, freshR]
    rw [e]; exact this
  · show (0 : Int) ≤ (start - start) / b
    simp

set_option maxRecDepth 100000 in
theorem rsaid {k : Nat} {b start : Int} {l : List Call} (hk : 2 ≤ k) (hk9 : k ≤ 9) (hb : 0 < b) (hb1 : b ≤ 62500000000000) (ht : isTime start = true) (hl : l.all instOk = true) (h100 : l.length ≤ 100) : ∃ q, RSaid k b start l q := by
  obtain ⟨s0, s1⟩ := isTime_parts ht
  have BA := buck_k (tim := 0) (trip := 5) (bound := 0) hk hk9 hb hb1 (Int.le_refl 0) hb
  rw [show (k : Int) * b - 0 = (k : Int) * b by omega] at BA
  obtain ⟨y1, y2, _, y4⟩ := never_run (i0 := (k : Int) * b) (b0 := b) hk (by omega) hb s0 s1 l (fresh_inv (i0 := (k : Int) * b) (tim := 0) (trip := 5) (bound := 0) hk hb s0) 0 (by omega) rfl rfl rfl hl s0 (by show start ≤ _; omega)
  refine ⟨PC.run (winT ((k : Int) * b) b 0 5 0) (PC.fresh (freshR (winT ((k : Int) * b) b 0 5 0) k) start) l, ?_, y1, y2, ?_, ?_⟩
  · rw [prun_len]; simp [PC.fresh]
  · intro j x hx
    obtain ⟨t, t1, t2⟩ := y4 j x hx
    exact ⟨t, by rw [Nat.zero_add] at t1; exact t1, by rw [List.nil_append] at t2; exact t2⟩
  · intro va w hv
    exact roll_play BA hk (winT_ok _ _ _ _ _) (show (0 : Int) ≤ 1000000000000000000 by omega) s0 s1 hl h100 hv

end Go.Proofs.Ytcjklacfoldaoaa

/- The law FnRolling as a contract: it is true. Condition: the calls can be read. -/
namespace Go.Proofs.Ytcjklacfoldaoaa
open Go.RowKit
attribute [local go_sem ↓] Go.wp_at_zero Go.wp_at_succ

theorem wrapU {n : Int} (h0 : 0 ≤ n) (h1 : n < 4294967296) : IntKind.u32.wrap n = n := by
  show n % 4294967296 = n
  omega
theorem below_drewNR {B : Nat} {w : World} (n : Nat) : Below B w (w.drewN n) := ⟨rfl, rfl, rfl, Nat.le_refl _, fun _ _ => rfl⟩
theorem hist_in {b start : Int} {l : List Call} (hb : 0 < b) (ha : (l.map strip).all instOk = true) (hl : l.length ≤ 100) {i : Nat} {x : Int × Bool} (hx : (hist b start start l)[i]? = some x) : 0 ≤ x.1 ∧ x.1 ≤ 200000000000000000 := by
  have hi : i < l.length := by
    rcases Nat.lt_or_ge i l.length with h | h
    · exact h
    · rw [List.getElem?_eq_none (by rw [hist_len]; exact h)] at hx; cases hx
  have hc : l[i]? = some l[i] := List.getElem?_eq_getElem hi
  rw [hist_get hc] at hx
  simp only [Option.some.injEq] at hx
  subst hx
  have e : ∀ m : List Call, sumw (m.map strip) = sumw m := by
    intro m
    induction m with
    | nil => rfl
    | cons c m ih => rw [List.map_cons, sumw_cons, sumw_cons, ih]; rfl
  have hs : ((l.take (i + 1)).map strip).all instOk = true := by
    rw [List.all_eq_true] at ha ⊢
    intro y hy
    rw [List.mem_map] at hy
    obtain ⟨z, hz, rfl⟩ := hy
    exact ha _ (List.mem_map_of_mem (List.mem_of_mem_take hz))
  have q1 := sumw_nonneg hs
  have q2 := sumw_bound hs
  rw [e, sumw_take hc] at q1 q2
  have q3 : ((l.take (i + 1)).map strip).length ≤ l.length := by simp; omega
  dsimp only
  exact ⟨Int.ediv_nonneg (by omega) (by omega), Int.le_trans (Int.ediv_le_self _ (by omega)) (by omega)⟩
theorem cn_take {q : Int × Bool → Bool} {h : List (Int × Bool)} {j : Nat} {x : Int × Bool} (hx : h[j]? = some x) : cn q (h.take (j + 1)) = cn q (h.take j) + (if q x then 1 else 0) := by
  rw [List.take_add_one, hx]
  exact cn_snoc _ _ _
theorem cn_small (q : Int × Bool → Bool) (h : List (Int × Bool)) (j : Nat) (hj : h.length ≤ 100) : 0 ≤ cn q (h.take j) ∧ cn q (h.take j) ≤ 100 := by
  have h1 := cn_nonneg q (h.take j)
  have h2 := cn_le q (h.take j)
  have h3 : (h.take j).length ≤ h.length := by simp; omega
  omega

set_option maxRecDepth 100000 in
set_option maxHeartbeats 8000000 in
theorem FnRolling_main (n b start : Int) (va : Value) (l : List Call) (w : World) (ha : CallsAt w va l) (hn : l.length ≤ 100) (c0 : ¬ b ≤ 0) (c1 : ¬ 62500000000000 < b) (ht : isTime start = true) :
    Calls Try.prog 13 #[.int .i64 n, .int .i64 b, .int .i64 start, va] w fun e w' => e = .returned (.bool true) ∧ Below w.heap.size w w' := by
  have HAT := Lib.hid ha
  obtain ⟨pa, cap, rfl, hacts⟩ := ha
  have HA := Lib.hid hacts
  obtain ⟨k, hk, k2, k9⟩ := and7i n
  have e0 : IntKind.i64.wrap (k : Int) = (k : Int) := wrapI (by omega) (by omega)
  have hnz : (l.length : Int) ≤ 2147483647 := by omega
  have hnz2 : (l.length : Int) ≤ 100 := by omega
  have d0 : decide (b ≤ 0) = false := by simpa using c0
  have d1 : decide (62500000000000 < b) = false := by simpa using c1
  have hb0 : 0 < b := by omega
  have hbz : ¬ b = 0 := by omega
  have PK := Lib.hid (prod_k k2 k9 (b := b) (by omega) (by omega))
  have ekb : IntKind.i64.wrap ((k : Int) * b) = (k : Int) * b := wrapI (by have := PK.out; omega) (by have := PK.out; omega)
  have HT := Lib.hid ht
  have HS := Lib.hid (isTime_parts ht)
  have CB1 := Lib.hid c1
  clear hacts ht c0 c1
  go_enter Try.func13, Try.ntmps13
  go_wp2_with fail
  refine (isTime_any start _).mono ?_
  rintro e w1 ⟨rfl, rfl⟩
  rw [HT.out]
  go_wp2_with fail
  go_loopg [10, 11, 12, 48] l.length (fun g s10 s11 s12 s48 wx => ∃ (i : Nat) (now : Int), g = l.length - i ∧ i ≤ l.length ∧ s10 = .int .i64 now ∧ s48 = .int .i64 (i : Int) ∧ Hid (now = start + sumw (l.take i) ∧ ((l.take i).map strip).all instOk = true ∧ Below w.heap.size w wx ∧
    wx.ownsRow w.heap.size 57 5 s11 i (callFlat ((l.take i).map strip)) ∧ wx.ownsRow w.heap.size 2 1 s12 i (((hist b start start l).take i).map ageRow)))
  case atStart => exact ⟨0, start, rfl, Nat.zero_le _, rfl, rfl, Lib.hid ⟨by simp [sumw], rfl, Below.refl _ _, World.ownsRow_nil _ _ _ _, World.ownsRow_nil _ _ _ _⟩⟩
  case round =>
    obtain ⟨i, now, rfl, hi, rfl, rfl, hh⟩ := hrel
    obtain ⟨hN, hOk, hB, hL, hG⟩ := hh.out
    have HN := Lib.hid hN
    have HOK := Lib.hid hOk
    have HB := Lib.hid hB
    have HL := Lib.hid hL
    have HG := Lib.hid hG
    have SW := Lib.hid (show start ≤ now ∧ now ≤ start + 100000000000000000 by
      have e : sumw (l.take i) = sumw ((l.take i).map strip) := by
        generalize l.take i = m
        induction m with
        | nil => rfl
        | cons c m ih => rw [List.map_cons, sumw_cons, sumw_cons, ih]; rfl
      have q1 := sumw_nonneg hOk
      have q2 := sumw_bound hOk
      have q3 : ((l.take i).map strip).length ≤ l.length := by simp; omega
      omega)
    clear hh hN hOk hB hL hG
    by_cases hin : i < l.length
    · have hiz : (i : Int) < (l.length : Int) := by omega
      obtain ⟨a, hla⟩ : ∃ a, l[i]? = some a := ⟨_, List.getElem?_eq_getElem hin⟩
      obtain ⟨ab, ao, rfl, hblk, hcell⟩ := HA.out i a hla
      have hbc := fun j u hj => (HB.out.cell (p := ⟨ab, ao + i * 5 + j, none⟩) hblk).trans (hcell j u hj)
      have k0 : wr.cell? ⟨ab, ao + i * 5, none⟩ = some (.int .i64 a.wait) := hbc 0 _ rfl
      have q1 := hbc 1 _ rfl
      have q2 := hbc 2 _ rfl
      have q3 := hbc 3 _ rfl
      have q4 := hbc 4 _ rfl
      have LA := Lib.hid hla
      clear hbc hcell hla
      go_upto_region 12 with fail
      have HX := Lib.hid (heap_alloc_new wr (Obj.cells (callArr a) 57))
      have HB2 := Lib.hid (HB.out.alloc HB.out.size (Obj.cells (callArr a) 57))
      have BX := Lib.hid ((Below.refl wr.heap.size wr).alloc (Nat.le_refl _) (Obj.cells (callArr a) 57))
      have HL2 := Lib.hid (own_below HL.out BX.out)
      have HG2 := Lib.hid (own_below HG.out BX.out)
      have UN := Lib.hid (show u11.ownBlock ≠ some wr.heap.size from fun h => absurd (HL.out.lt _ h).2 (Nat.lt_irrefl _))
      unfold callArr at HX HB2 HL2 HG2
      obtain ⟨ba, hba⟩ : ∃ k, k = wr.heap.size := ⟨_, rfl⟩
      rw [← hba] at HX UN
      rw [← hba]
      clear k0 q1 q2 q3 q4 hba BX HL HG HB
      generalize (wr.alloc (Obj.cells #[Value.int IntKind.i64 a.wait, Value.int IntKind.i64 a.long, Value.int IntKind.i64 a.val, Value.int IntKind.i64 a.err, Value.bool a.pan] 57)) = W2 at *
      have x2 := blk_cell HX.out
      have z2 := size_of_heap HX.out
      cases hok : instOk (strip a) with
      | false =>
        have hbad : a.wait < 0 ∨ (0 ≤ a.wait ∧ 1000000000000000 < a.wait) ∨ (0 ≤ a.wait ∧ a.wait ≤ 1000000000000000 ∧ a.err < 0) ∨ (0 ≤ a.wait ∧ a.wait ≤ 1000000000000000 ∧ 0 ≤ a.err ∧ 6 < a.err) := by
          rcases instNo_parts hok with h | ⟨h1, h2⟩ | ⟨_, _, h3⟩ | ⟨h1, h2, _, h4⟩ | ⟨h1, h2, _, h4, h5⟩ | ⟨_, _, _, _, _, h6⟩
          · exact .inl h
          · exact .inr (.inl ⟨h1, h2⟩)
          · exact absurd rfl h3
          · exact .inr (.inr (.inl ⟨h1, h2, h4⟩))
          · exact .inr (.inr (.inr ⟨h1, h2, h4, h5⟩))
          · cases h6
        clear hok
        rcases hbad with q1 | ⟨q1, q2⟩ | ⟨q1, q2, q3⟩ | ⟨q1, q2, q3, q4⟩
        · have f0 : decide (a.wait < 0) = true := by simp; omega
          clear q1
          go_wp2_with fail
          refine (brWorks_any _).mono ?_
          rintro e wz ⟨rfl, hbz⟩
          go_wp2_with fail
          go_ret
          exact ⟨rfl, HB2.out.trans (hbz.mono HB2.out.size)⟩
        · have f0 : decide (a.wait < 0) = false := by simp; omega
          have f1 : decide (1000000000000000 < a.wait) = true := by simp; omega
          clear q1 q2
          go_wp2_with fail
          refine (brWorks_any _).mono ?_
          rintro e wz ⟨rfl, hbz⟩
          go_wp2_with fail
          go_ret
          exact ⟨rfl, HB2.out.trans (hbz.mono HB2.out.size)⟩
        · have f0 : decide (a.wait < 0) = false := by simp; omega
          have f1 : decide (1000000000000000 < a.wait) = false := by simp; omega
          have f2 : decide (a.err < 0) = true := by simp; omega
          clear q1 q2 q3
          go_wp2_with fail
          refine (brWorks_any _).mono ?_
          rintro e wz ⟨rfl, hbz⟩
          go_wp2_with fail
          go_ret
          exact ⟨rfl, HB2.out.trans (hbz.mono HB2.out.size)⟩
        · have f0 : decide (a.wait < 0) = false := by simp; omega
          have f1 : decide (1000000000000000 < a.wait) = false := by simp; omega
          have f2 : decide (a.err < 0) = false := by simp; omega
          have f3 : decide (7 ≤ a.err) = true := by simp; omega
          clear q1 q2 q3 q4
          go_wp2_with fail
          refine (brWorks_any _).mono ?_
          rintro e wz ⟨rfl, hbz⟩
          go_wp2_with fail
          go_ret
          exact ⟨rfl, HB2.out.trans (hbz.mono HB2.out.size)⟩
      | true =>
        have OKA := Lib.hid hok
        obtain ⟨r1, r2, _, r4, r5, _⟩ := instOk_parts hok
        have r1' : 0 ≤ a.wait := r1
        have r2' : a.wait ≤ 1000000000000000 := r2
        have r4' : 0 ≤ a.err := r4
        have r5' : a.err ≤ 6 := r5
        have f0 : decide (a.wait < 0) = false := by simp; omega
        have f1 : decide (1000000000000000 < a.wait) = false := by simp; omega
        have f2 : decide (a.err < 0) = false := by simp; omega
        have f3 : decide (7 ≤ a.err) = false := by simp; omega
        clear hok r1 r2 r4 r5
        obtain ⟨i0, hi0, hz0, hz1, hz2⟩ := info_parts infoCall
        obtain ⟨j0, hj0, hy0, hy1, hy2⟩ := info_parts infoI64
        have hbase := HB2.out.size
        go_upto_region 15 with (refine wpList_append_lies _ (by rfl) _ _ _ (by rfl) w.heap.size 57 i0 (.agg #[.int .i64 0, .int .i64 0, .int .i64 0, .int .i64 0, .bool false]) 5 40 Try.underlying58 hi0 hz0 hz1 hz2 rfl (by omega) u11 i (callFlat ((l.take i).map strip)) (by rfl) (HL2.out.alloc _) ⟨W2.heap.size, 0, none⟩ 1 1 (callRow (strip a)) (by rfl) rfl (World.news_of_block (heap_alloc_new W2 _)) (by intro u hu; simp [callRow] at hu; rcases hu with rfl | rfl | rfl | rfl | rfl <;> rfl) (by omega) (by unfold maxLen; omega) (by omega) (by simp; omega) (W2.heap.size + 1) (by simp) ?_; intro g cp wA hown hgrow hat hlt)
        have HBA := Lib.hid ((HB2.out.alloc hbase (Obj.cells #[Value.int IntKind.i64 a.wait, Value.int IntKind.i64 0, Value.int IntKind.i64 0, Value.int IntKind.i64 a.err, Value.bool false] 57)).grown hgrow (by simp; omega) (fun k hk => (HL2.out.lt k hk).1))
        have HXA := Lib.hid (grown_heap hgrow (heap_alloc_lt HX.out) UN.out)
        have HGA := Lib.hid (grown_row hgrow (HG2.out.alloc _) (row_ne HG2.out HL2.out (by decide)))
        have hown' : wA.ownsRow w.heap.size 57 5 (.slice (some ⟨g, 0, none⟩) (i + 1) cp) (i + 1) (callFlat ((l.take (i + 1)).map strip)) := by
          rw [List.take_add_one, LA.out]
          show wA.ownsRow _ _ _ _ _ (callFlat ((l.take i ++ [a]).map strip))
          rw [List.map_append, List.map_cons, List.map_nil, callFlat_snoc]
          exact hown
        have HLA := Lib.hid hown'
        clear hown hown' hgrow hat x2 z2 HB2 HX UN HL2 HG2 hbase
        have xA := blk_cell HXA.out
        have zA := size_of_heap HXA.out
        obtain ⟨N, hNN⟩ : ∃ N, N = now + a.wait := ⟨_, rfl⟩
        have e1 : IntKind.i64.wrap (now + a.wait) = N := by rw [hNN]; exact wrapI (by have := SW.out; have := HS.out; omega) (by have := SW.out; have := HS.out; omega)
        have e2 : IntKind.i64.wrap (N - start) = N - start := wrapI (by have := SW.out; omega) (by have := SW.out; omega)
        obtain ⟨A, hAA⟩ : ∃ A, A = (N - start) / b := ⟨_, rfl⟩
        have e3 : (N - start).tdiv b = A := by rw [hAA]; exact Int.tdiv_eq_ediv_of_nonneg (by have := SW.out; omega)
        have A0 : 0 ≤ A := by rw [hAA]; exact Int.ediv_nonneg (by have := SW.out; omega) (by omega)
        have A1 : A ≤ 200000000000000000 := by rw [hAA]; exact Int.le_trans (Int.ediv_le_self _ (by have := SW.out; omega)) (by have := SW.out; omega)
        have e4 : IntKind.i64.wrap A = A := wrapI (by omega) (by omega)
        have HH := Lib.hid (show (hist b start start l)[i]? = some (A, a.err == 0) by rw [hist_get LA.out, hAA, hNN, HN.out])
        have NN := Lib.hid (show N = start + sumw (l.take (i + 1)) by rw [sumw_take LA.out, hNN, HN.out]; omega)
        have OKN := Lib.hid (show ((l.take (i + 1)).map strip).all instOk = true by
          rw [List.take_add_one, LA.out]
          show ((l.take i ++ [a]).map strip).all instOk = true
          rw [List.map_append, List.all_append, HOK.out]
          simp [OKA.out])
        clear hNN hAA
        have hbaseA := HBA.out.size
        by_cases hz : (N - start).tmod b = 0 ∧ N ≠ start
        · have t1 : ((N - start).tmod b == 0) = true := by simpa using hz.1
          have t2 : (N != start) = true := by simpa using hz.2
          have t3 := hz.1
          clear hz
          go_wp2_with fail
          refine (brWorks_any _).mono ?_
          rintro e wz ⟨rfl, hbz⟩
          go_wp2_with fail
          go_ret
          exact ⟨rfl, HBA.out.trans (hbz.mono HBA.out.size)⟩
        · have goon : ∀ (Z : Prop), (((N - start).tmod b == 0) = false → Z) → (((N - start).tmod b == 0) = true → (N != start) = false → Z) → Z := by
            intro Z z1 z2
            by_cases t : (N - start).tmod b = 0
            · exact z2 (by simpa using t) (by
                have : ¬ N ≠ start := fun q => hz ⟨t, q⟩
                simpa using this)
            · exact z1 (by simpa using t)
          clear hz
          refine goon _ (fun t1 => ?_) (fun t1 t2 => ?_)
          all_goals (
            clear goon
            go_wp2_with (refine wpList_append_lies _ (by rfl) _ _ _ (by rfl) w.heap.size 2 j0 (.int .i64 0) 1 8 Try.underlying65 hj0 hy0 hy1 hy2 rfl (by omega) u12 i (((hist b start start l).take i).map ageRow) (by rfl) (HGA.out.alloc _) ⟨wA.heap.size, 0, none⟩ 1 1 [.int .i64 A] (by rfl) rfl (World.news_of_block (heap_alloc_new wA _)) (by intro u hu; simp at hu; subst hu; rfl) (by omega) (by unfold maxLen; omega) (by omega) (by simp; omega) (wA.heap.size + 1) (by simp) ?_; intro g2 cp2 wB hown2 hgrow2 hat2 hlt2)
            go_roundg (l.length - (i + 1))
            case measure => omega
            case rel =>
              refine ⟨i + 1, N, rfl, hin, rfl, by first | rfl | (simp; done), Lib.hid ⟨NN.out, OKN.out, ?_, ?_, ?_⟩⟩
              · exact (HBA.out.alloc hbaseA (Obj.cells #[Value.int IntKind.i64 A] 2)).grown hgrow2 (by simp; omega) (fun k hk => (HGA.out.lt k hk).1)
              · exact grown_row hgrow2 (HLA.out.alloc _) (row_ne HLA.out HGA.out (by decide))
              · rw [List.take_add_one, HH.out, List.map_append]
                exact hown2)
    · have hiz : ¬ ((i : Int) < (l.length : Int)) := by omega
      have hie : i = l.length := by omega
      have hall := HOK.out
      rw [hie, List.take_length] at hall
      obtain ⟨q, hq⟩ := rsaid k2 k9 hb0 (by have := CB1.out; omega) HT.out hall (by rw [List.length_map]; exact hn)
      have SA := Lib.hid hq
      have ALL := Lib.hid hall
      have hLL := HL.out
      have hGG := HG.out
      rw [hie, List.take_length] at hLL
      rw [hie, ← hist_len b start start l, List.take_length, hist_len] at hGG
      have HLL := Lib.hid (show wr.ownsRow w.heap.size 57 5 u11 (l.map strip).length (callFlat (l.map strip)) by rw [List.length_map]; exact hLL)
      have HGG := Lib.hid hGG
      have elen := hq.len
      rw [List.length_map] at elen
      have ELEN := Lib.hid elen
      clear hq hall hLL hGG elen hie HL HG HN HOK SW
      go_wp2_with fail
      refine (SA.out.play _ _ (own_calls HLL.out)).mono ?_
      rintro e w4 ⟨vo, vc, rfl, ho, hc, hb4⟩
      rw [SA.out.chs] at hc
      rw [SA.out.st]
      rw [ELEN.out] at ho
      have HO := Lib.hid ho
      have HC := Lib.hid hc
      have B4 := Lib.hid (HB.out.trans (hb4.mono HB.out.size))
      have HL4 := Lib.hid (own_below HLL.out hb4)
      have HG4 := Lib.hid (own_below HGG.out hb4)
      clear ho hc hb4 HLL HGG HB
      obtain ⟨po, co, rfl⟩ := row_len HO.out
      obtain ⟨pc, cc, rfl⟩ := row_len HC.out
      obtain ⟨pl, cl, rfl⟩ := row_len HL4.out
      obtain ⟨pg, cg, rfl⟩ := row_len HG4.out
      have hlm : ((l.map strip).length : Int) = (l.length : Int) := by simp
      have hlm2 : (l.map strip).length = l.length := by simp
      rw [hlm2] at HL4 ⊢
      clear hlm hlm2
      go_wp2_with fail
      go_loopg [118] l.length (fun g s118 wx => ∃ i : Nat, g = l.length - i ∧ i ≤ l.length ∧ s118 = .int .i64 (i : Int) ∧ Hid (Below w4.heap.size w4 wx))
      case atStart => exact ⟨0, rfl, Nat.zero_le _, rfl, Lib.hid (Below.refl _ _)⟩
      case round =>
      obtain ⟨i, rfl, hi, rfl, HB2⟩ := hrel
      by_cases hin : i < l.length
      · have hiz : (i : Int) < (l.length : Int) := by omega
        obtain ⟨h, hh⟩ : ∃ h, (hist b start start l)[i]? = some h := ⟨_, List.getElem?_eq_getElem (by rw [hist_len]; exact hin)⟩
        obtain ⟨t, ht1, ht2⟩ := SA.out.cnt i h (by rw [hist_strip]; exact hh)
        rw [hist_strip] at ht2
        have LX := Lib.hid ht1
        have CT := Lib.hid ht2
        have HHI := Lib.hid hh
        obtain ⟨hx0, hx1⟩ := hist_in hb0 ALL.out hn hh
        have HTO := Lib.hid (own_below HO.out HB2.out)
        obtain ⟨g1, rfl, c1⟩ := row_part HTO.out (by omega)
        have t0 : wr.cell? ⟨g1, i * 10, none⟩ = some (.bool t.ran) := c1 _ _ ((toldFlat_get LX.out (j := 0) (by omega)).trans rfl)
        have t1 : wr.cell? ⟨g1, i * 10 + 1, none⟩ = some (.int .i64 t.val) := c1 _ _ ((toldFlat_get LX.out (j := 1) (by omega)).trans rfl)
        have t2 : wr.cell? ⟨g1, i * 10 + 2, none⟩ = some (.int .i64 t.err) := c1 _ _ ((toldFlat_get LX.out (j := 2) (by omega)).trans rfl)
        have t3 : wr.cell? ⟨g1, i * 10 + 3, none⟩ = some (.bool t.pan) := c1 _ _ ((toldFlat_get LX.out (j := 3) (by omega)).trans rfl)
        have t4 : wr.cell? ⟨g1, i * 10 + 4, none⟩ = some (.int .u32 t.cnt.r) := c1 _ _ ((toldFlat_get LX.out (j := 4) (by omega)).trans rfl)
        have t5 : wr.cell? ⟨g1, i * 10 + 5, none⟩ = some (.int .u32 t.cnt.s) := c1 _ _ ((toldFlat_get LX.out (j := 5) (by omega)).trans rfl)
        have t6 : wr.cell? ⟨g1, i * 10 + 6, none⟩ = some (.int .u32 t.cnt.f) := c1 _ _ ((toldFlat_get LX.out (j := 6) (by omega)).trans rfl)
        have t7 : wr.cell? ⟨g1, i * 10 + 7, none⟩ = some (.int .u32 t.cnt.x) := c1 _ _ ((toldFlat_get LX.out (j := 7) (by omega)).trans rfl)
        have t8 : wr.cell? ⟨g1, i * 10 + 8, none⟩ = some (.int .u32 t.cnt.g) := c1 _ _ ((toldFlat_get LX.out (j := 8) (by omega)).trans rfl)
        have t9 : wr.cell? ⟨g1, i * 10 + 9, none⟩ = some (.int .u32 t.cnt.h) := c1 _ _ ((toldFlat_get LX.out (j := 9) (by omega)).trans rfl)
        clear c1 HTO ht1 ht2 hh
        go_upto_region 25 with fail
        have hT8 := heap_alloc_lt (o := Obj.cells #[Value.int IntKind.u32 0, Value.int IntKind.u32 0, Value.int IntKind.u32 0, Value.int IntKind.u32 0, Value.int IntKind.u32 0, Value.int IntKind.u32 0] 36) (heap_alloc_new wr (Obj.cells #[Value.bool t.ran, Value.int IntKind.i64 t.val, Value.int IntKind.i64 t.err, Value.bool t.pan, Value.int IntKind.u32 t.cnt.r, Value.int IntKind.u32 t.cnt.s, Value.int IntKind.u32 t.cnt.f, Value.int IntKind.u32 t.cnt.x, Value.int IntKind.u32 t.cnt.g, Value.int IntKind.u32 t.cnt.h] 63))
        have hC8 : ((wr.alloc (Obj.cells #[Value.bool t.ran, Value.int IntKind.i64 t.val, Value.int IntKind.i64 t.err, Value.bool t.pan, Value.int IntKind.u32 t.cnt.r, Value.int IntKind.u32 t.cnt.s, Value.int IntKind.u32 t.cnt.f, Value.int IntKind.u32 t.cnt.x, Value.int IntKind.u32 t.cnt.g, Value.int IntKind.u32 t.cnt.h] 63)).alloc (Obj.cells #[Value.int IntKind.u32 0, Value.int IntKind.u32 0, Value.int IntKind.u32 0, Value.int IntKind.u32 0, Value.int IntKind.u32 0, Value.int IntKind.u32 0] 36)).heap[wr.heap.size + 1]? = some (Obj.cells #[Value.int IntKind.u32 0, Value.int IntKind.u32 0, Value.int IntKind.u32 0, Value.int IntKind.u32 0, Value.int IntKind.u32 0, Value.int IntKind.u32 0] 36 (0, 0)) := heap_alloc_at (by simp)
        have hB8 := (HB2.out.alloc HB2.out.size (Obj.cells #[Value.bool t.ran, Value.int IntKind.i64 t.val, Value.int IntKind.i64 t.err, Value.bool t.pan, Value.int IntKind.u32 t.cnt.r, Value.int IntKind.u32 t.cnt.s, Value.int IntKind.u32 t.cnt.f, Value.int IntKind.u32 t.cnt.x, Value.int IntKind.u32 t.cnt.g, Value.int IntKind.u32 t.cnt.h] 63)).alloc (by simp; have := HB2.out.size; omega) (Obj.cells #[Value.int IntKind.u32 0, Value.int IntKind.u32 0, Value.int IntKind.u32 0, Value.int IntKind.u32 0, Value.int IntKind.u32 0, Value.int IntKind.u32 0] 36)
        have ht4 : w4.heap.size ≤ wr.heap.size := HB2.out.size
        obtain ⟨tb, htb⟩ : ∃ tb, tb = wr.heap.size := ⟨_, rfl⟩
        rw [← htb] at hT8 hC8 ht4
        rw [← htb]
        obtain ⟨cb, hcb⟩ : ∃ cb, cb = tb + 1 := ⟨_, rfl⟩
        rw [← hcb] at hC8
        rw [← hcb]
        have htc : tb ≠ cb := by omega
        have hct : cb ≠ tb := by omega
        have hc4 : w4.heap.size ≤ cb := by omega
        have T8 := Lib.hid hT8
        have C8 := Lib.hid hC8
        have B8 := Lib.hid hB8
        clear hT8 hC8 hB8 htb hcb t0 t1 t2 t3 t4 t5 t6 t7 t8 t9
        generalize ((wr.alloc (Obj.cells #[Value.bool t.ran, Value.int IntKind.i64 t.val, Value.int IntKind.i64 t.err, Value.bool t.pan, Value.int IntKind.u32 t.cnt.r, Value.int IntKind.u32 t.cnt.s, Value.int IntKind.u32 t.cnt.f, Value.int IntKind.u32 t.cnt.x, Value.int IntKind.u32 t.cnt.g, Value.int IntKind.u32 t.cnt.h] 63)).alloc (Obj.cells #[Value.int IntKind.u32 0, Value.int IntKind.u32 0, Value.int IntKind.u32 0, Value.int IntKind.u32 0, Value.int IntKind.u32 0, Value.int IntKind.u32 0] 36)) = w8 at *
        have ei : IntKind.i64.wrap ((i : Int) + 1) = (i : Int) + 1 := wrapI (by omega) (by omega)
        go_wp2_with fail
        go_loopg [125] (i + 1) (fun g s125 wx => ∃ j : Nat, g = i + 1 - j ∧ j ≤ i + 1 ∧ s125 = .int .i64 (j : Int) ∧ Hid (Below w4.heap.size w4 wx ∧ wx.heap[tb]? = some (Obj.cells #[Value.bool t.ran, Value.int IntKind.i64 t.val, Value.int IntKind.i64 t.err, Value.bool t.pan, Value.int IntKind.u32 t.cnt.r, Value.int IntKind.u32 t.cnt.s, Value.int IntKind.u32 t.cnt.f, Value.int IntKind.u32 t.cnt.x, Value.int IntKind.u32 t.cnt.g, Value.int IntKind.u32 t.cnt.h] 63 (0, 0)) ∧ wx.heap[cb]? = some (Obj.cells #[Value.int IntKind.u32 (cn (fun x => inW k h.1 x && true) ((hist b start start l).take j)), Value.int IntKind.u32 (cn (fun x => inW k h.1 x && x.2) ((hist b start start l).take j)), Value.int IntKind.u32 (cn (fun x => inW k h.1 x && !x.2) ((hist b start start l).take j)), Value.int IntKind.u32 0, Value.int IntKind.u32 0, Value.int IntKind.u32 0] 36 (0, 0))))
        case atStart => exact ⟨0, rfl, Nat.zero_le _, rfl, Lib.hid ⟨B8.out, T8.out, C8.out⟩⟩
        case round =>
        obtain ⟨j, rfl, hj, rfl, hh3⟩ := hrel
        obtain ⟨hB3, hT3, hC3⟩ := hh3.out
        have B3 := Lib.hid hB3
        have T3 := Lib.hid hT3
        have C3 := Lib.hid hC3
        clear hh3 hB3 hT3 hC3 T8 C8 B8
        by_cases hjn : j < i + 1
        · have hjz : (j : Int) < (i : Int) + 1 := by omega
          have hjl : j < l.length := by omega
          have hjlz : (j : Int) < (l.length : Int) := by omega
          obtain ⟨c, hc⟩ : ∃ c, l[j]? = some c := ⟨_, List.getElem?_eq_getElem hjl⟩
          obtain ⟨y, hy, hyg⟩ : ∃ y, (hist b start start l)[j]? = some y ∧ y.2 = (c.err == 0) := ⟨_, hist_get hc, rfl⟩
          have HY := Lib.hid hy
          have HYG := Lib.hid hyg
          obtain ⟨hy0, hy1⟩ := hist_in hb0 ALL.out hn hy
          have HLR := Lib.hid (own_below HL4.out B3.out)
          have HGR := Lib.hid (own_below HG4.out B3.out)
          obtain ⟨gl, rfl, cL⟩ := row_part HLR.out (by omega)
          obtain ⟨gg, rfl, cG⟩ := row_part HGR.out (by omega)
          have a3 : wr.cell? ⟨gl, j * 5 + 3, none⟩ = some (.int .i64 c.err) := cL _ _ ((callFlat_get (x := strip c) (by rw [List.getElem?_map, hc]; rfl) (j := 3) (by omega)).trans rfl)
          have aj : wr.cell? ⟨gg, j, none⟩ = some (.int .i64 y.1) := cG _ _ (by rw [List.getElem?_map, hy]; rfl)
          have ai : wr.cell? ⟨gg, i, none⟩ = some (.int .i64 h.1) := cG _ _ (by rw [List.getElem?_map, HHI.out]; rfl)
          have zl : gl < wr.heap.size := (HLR.out.lt gl rfl).2
          have zl4 : gl ≠ cb := by have := (HL4.out.lt gl rfl).2; omega
          have zl5 : cb ≠ gl := by omega
          have v3 := blk_cell C3.out
          have f3 := blk_free C3.out
          have zc := size_of_heap C3.out
          have e5 : IntKind.i64.wrap (h.1 - (k : Int)) = h.1 - (k : Int) := wrapI (by omega) (by omega)
          have Hl := hist_len b start start l
          obtain ⟨s10, s11⟩ := cn_small (fun x => inW k h.1 x && true) (hist b start start l) j (by omega)
          obtain ⟨s20, s21⟩ := cn_small (fun x => inW k h.1 x && x.2) (hist b start start l) j (by omega)
          obtain ⟨s30, s31⟩ := cn_small (fun x => inW k h.1 x && !x.2) (hist b start start l) j (by omega)
          obtain ⟨R, hR⟩ : ∃ R, R = cn (fun x => inW k h.1 x && true) ((hist b start start l).take j) := ⟨_, rfl⟩
          obtain ⟨Sx, hSx⟩ : ∃ Sx, Sx = cn (fun x => inW k h.1 x && x.2) ((hist b start start l).take j) := ⟨_, rfl⟩
          obtain ⟨Fx, hFx⟩ : ∃ Fx, Fx = cn (fun x => inW k h.1 x && !x.2) ((hist b start start l).take j) := ⟨_, rfl⟩
          rw [← hR] at v3 s10 s11
          rw [← hSx] at v3 s20 s21
          rw [← hFx] at v3 s30 s31
          have ER := Lib.hid hR
          have ES := Lib.hid hSx
          have EF := Lib.hid hFx
          have eR : IntKind.u32.wrap (R + 1) = R + 1 := wrapU (by omega) (by omega)
          have eS : IntKind.u32.wrap (Sx + 1) = Sx + 1 := wrapU (by omega) (by omega)
          have eF : IntKind.u32.wrap (Fx + 1) = Fx + 1 := wrapU (by omega) (by omega)
          clear cL cG hc hy hyg hR hSx hFx Hl HLR HGR
          by_cases hle : y.1 ≤ h.1 - (k : Int)
          · have dle : decide (y.1 ≤ h.1 - (k : Int)) = true := by simpa using hle
            have IW := Lib.hid (show inW k h.1 y = false by unfold inW; simp; omega)
            clear hle
            go_upto_region 28 with fail
            go_quiet (fail)
            go_wp2_with fail
            go_roundg (i + 1 - (j + 1))
            case measure => omega
            case rel =>
              refine ⟨j + 1, rfl, hjn, by first | rfl | (simp; done), Lib.hid ⟨B3.out.trans (below_drewNR _), T3.out, ?_⟩⟩
              have hC := C3.out
              rw [cn_take HY.out, cn_take HY.out, cn_take HY.out, IW.out]
              simpa using hC
          · have dle : decide (y.1 ≤ h.1 - (k : Int)) = false := by simpa using hle
            have IW := Lib.hid (show inW k h.1 y = true by unfold inW; simp; omega)
            clear hle
            cases hg : c.err == 0 with
            | true =>
              have YG := Lib.hid (HYG.out.trans hg)
              go_upto_region 28 with fail
              go_quiet (fail)
              go_wp2_with fail
              go_roundg (i + 1 - (j + 1))
              case measure => omega
              case rel =>
                refine ⟨j + 1, rfl, hjn, by first | rfl | (simp; done), Lib.hid ⟨((B3.out.trans (below_drewNR _)).setCell hc4 _).setCell hc4 _, heap_set_other (heap_set_other T3.out htc) htc, ?_⟩⟩
                refine (heap_set_same (heap_set_same C3.out)).trans ?_
                rw [cn_take HY.out, cn_take HY.out, cn_take HY.out, IW.out, YG.out, ER.out, ES.out]
                simp
            | false =>
              have YG := Lib.hid (HYG.out.trans hg)
              go_upto_region 28 with fail
              go_quiet (fail)
              go_wp2_with fail
              go_roundg (i + 1 - (j + 1))
              case measure => omega
              case rel =>
                refine ⟨j + 1, rfl, hjn, by first | rfl | (simp; done), Lib.hid ⟨((B3.out.trans (below_drewNR _)).setCell hc4 _).setCell hc4 _, heap_set_other (heap_set_other T3.out htc) htc, ?_⟩⟩
                refine (heap_set_same (heap_set_same C3.out)).trans ?_
                rw [cn_take HY.out, cn_take HY.out, cn_take HY.out, IW.out, YG.out, ER.out, EF.out]
                simp
        · have hjz : ¬ ((j : Int) < (i : Int) + 1) := by omega
          have hC := C3.out
          rw [show j = i + 1 by omega, ← CT.out.r, ← CT.out.s, ← CT.out.f] at hC
          have v3 := blk_cell hC
          have v4 := blk_cell T3.out
          have z3 := size_of_heap hC
          have z4 := size_of_heap T3.out
          clear hC
          go_wp2_with fail
          go_roundg (l.length - (i + 1))
          case measure => omega
          case rel => exact ⟨i + 1, rfl, hin, by first | rfl | (simp; done), Lib.hid B3.out⟩
      · have hiz : ¬ ((i : Int) < (l.length : Int)) := by omega
        have B5 := Lib.hid (B4.out.trans (HB2.out.mono B4.out.size))
        have ee : ((l.length : Int) == (l.length : Int)) = true := by simp
        go_wp2_with fail
        refine (brWorks_any _).mono ?_
        rintro e wz ⟨rfl, hbz⟩
        go_wp2_with fail
        go_ret
        exact ⟨rfl, B5.out.trans (hbz.mono B5.out.size)⟩

set_option maxRecDepth 100000 in
set_option maxHeartbeats 4000000 in
theorem FnRolling_any (n b start : Int) (va : Value) (l : List Call) (w : World) (ha : CallsAt w va l) :
    Calls Try.prog 13 #[.int .i64 n, .int .i64 b, .int .i64 start, va] w fun e w' => e = .returned (.bool true) ∧ Below w.heap.size w w' := by
  by_cases c0 : b ≤ 0
  · obtain ⟨pa, cap, rfl, _⟩ := ha
    have d0 : decide (b ≤ 0) = true := by simpa using c0
    clear c0
    by_cases hn : l.length ≤ 2147483647
    · have hnz : (l.length : Int) ≤ 2147483647 := by omega
      go_enter Try.func13, Try.ntmps13
      go_wp2_with fail
      refine (brWorks_any _).mono ?_
      rintro e wz ⟨rfl, hbz⟩
      go_wp2_with fail
      go_ret
      exact ⟨rfl, hbz⟩
    · have hnz : ¬ ((l.length : Int) ≤ 2147483647) := by omega
      go_enter Try.func13, Try.ntmps13
      go_wp2_with fail
      go_ret
      exact ⟨rfl, Below.refl _ _⟩
  · by_cases c1 : 62500000000000 < b
    · obtain ⟨pa, cap, rfl, _⟩ := ha
      have d0 : decide (b ≤ 0) = false := by simpa using c0
      have d1 : decide (62500000000000 < b) = true := by simpa using c1
      clear c0 c1
      by_cases hn : l.length ≤ 2147483647
      · have hnz : (l.length : Int) ≤ 2147483647 := by omega
        go_enter Try.func13, Try.ntmps13
        go_wp2_with fail
        refine (brWorks_any _).mono ?_
        rintro e wz ⟨rfl, hbz⟩
        go_wp2_with fail
        go_ret
        exact ⟨rfl, hbz⟩
      · have hnz : ¬ ((l.length : Int) ≤ 2147483647) := by omega
        go_enter Try.func13, Try.ntmps13
        go_wp2_with fail
        go_ret
        exact ⟨rfl, Below.refl _ _⟩
    · by_cases hn : l.length ≤ 2147483647
      · have hnz : (l.length : Int) ≤ 2147483647 := by omega
        cases ht : isTime start with
        | false =>
          obtain ⟨pa, cap, rfl, _⟩ := ha
          have d0 : decide (b ≤ 0) = false := by simpa using c0
          have d1 : decide (62500000000000 < b) = false := by simpa using c1
          have HT := Lib.hid ht
          clear c0 c1 ht
          go_enter Try.func13, Try.ntmps13
          go_wp2_with fail
          refine (isTime_any start _).mono ?_
          rintro e w1 ⟨rfl, rfl⟩
          rw [HT.out]
          go_wp2_with fail
          refine (brWorks_any _).mono ?_
          rintro e wz ⟨rfl, hbz⟩
          go_wp2_with fail
          go_ret
          exact ⟨rfl, hbz⟩
        | true =>
          by_cases h100 : l.length ≤ 100
          · exact FnRolling_main n b start va l w ha h100 c0 c1 ht
          · obtain ⟨pa, cap, rfl, _⟩ := ha
            have d0 : decide (b ≤ 0) = false := by simpa using c0
            have d1 : decide (62500000000000 < b) = false := by simpa using c1
            have HT := Lib.hid ht
            have h100z : (100 : Int) < (l.length : Int) := by omega
            clear c0 c1 ht
            go_enter Try.func13, Try.ntmps13
            go_wp2_with fail
            refine (isTime_any start _).mono ?_
            rintro e w1 ⟨rfl, rfl⟩
            rw [HT.out]
            go_wp2_with fail
            refine (brWorks_any _).mono ?_
            rintro e wz ⟨rfl, hbz⟩
            go_wp2_with fail
            go_ret
            exact ⟨rfl, hbz⟩
      · obtain ⟨pa, cap, rfl, _⟩ := ha
        have hnz : ¬ ((l.length : Int) ≤ 2147483647) := by omega
        go_enter Try.func13, Try.ntmps13
        go_wp2_with fail
        go_ret
        exact ⟨rfl, Below.refl _ _⟩

theorem fnRolling_row (n b start : Int) (va : Value) (l : List Call) (w : World) (_ : IntKind.i64.min ≤ n ∧ n ≤ IntKind.i64.max) (_ : IntKind.i64.min ≤ b ∧ b ≤ IntKind.i64.max) (_ : IntKind.i64.min ≤ start ∧ start ≤ IntKind.i64.max) (ha : CallsAt w va l) :
    Calls Try.prog 13 #[.int .i64 n, .int .i64 b, .int .i64 start, va] w fun e w' => e = .returned (.bool true) ∧ Below w.heap.size w w' := FnRolling_any n b start va l w ha

end Go.Proofs.Ytcjklacfoldaoaa

/- The row of FnRolling: it is true whatever the input, and the input reads as it did. No condition. -/
namespace Go.Proofs.Ytcjklacfoldaoaa
open Go.ChangeShapes Go.WideShapes Go.ChangeAt Go.RowKit Go.Deep

theorem fnRolling_own : ownKnob Try.prog.godebug = none := by kernel_rfl
theorem fnRolling_laidOut : laidOutB Try.prog = true := by kernel_rfl

set_option maxRecDepth 100000 in
theorem fnRolling_lifted (os : Os) (started : os.Started) (H : Type) (enc : TypeId × Value → H) :
    ReturnsInHanded {} Try.checked os 13 .any (Rows.fnRollingSpec.pre6 enc Try.prog Try.f13 Rows.fnRollingRow.domain false) (Rows.fnRollingSpec.post enc Try.prog Try.f13 false true false false) := by
  refine returnsInHanded_of_change (C := Try.checked) fnRolling_own started (by kernel_rfl) Try.func13
    (ChangeSpec.witness6 (enc := enc) (C := Try.checked) false ⟨#[], #[.int .i64 0, .int .i64 0, .int .i64 0, .slice none 0 0], []⟩ 20 (by kernel_rfl) (by kernel_rfl) (by kernel_rfl) (by kernel_rfl)) ?_
  intro W base args ds gs before hval0 hW hcnd _
  have hval : ∀ (j : Nat) t v, Try.f13.params[j]? = some t → args[j]? = some v → Value.okWide Try.prog W .any base t v := hval0
  have hW' := hW
  obtain ⟨p, q, hA0, hV, rfl, hfz, hnd⟩ := hW
  have hA : DataW.TrodAll enc Try.prog W 0 (fun _ => true) true Try.f13.params.toList args.toList ds p := hA0
  rw [Try.params13] at hA hval
  obtain ⟨v0, vs0, d0, ds0, p0, q0, e0, rfl, rfl, h0, g0⟩ := trodAll_cons hA
  obtain ⟨v1, vs1, d1, ds1, p1, q1, e1, rfl, rfl, h1, g1⟩ := trodAll_cons g0
  obtain ⟨v2, vs2, d2, ds2, p2, q2, e2, rfl, rfl, h2, g2⟩ := trodAll_cons g1
  obtain ⟨v3, vs3, d3, ds3, p3, q3, e3, rfl, rfl, h3, g3⟩ := trodAll_cons g2
  obtain ⟨rfl, rfl, rfl⟩ := trodAll_nil g3
  obtain ⟨rfl, rfl⟩ := trodVars_none hV
  subst e3
  subst e2
  subst e1
  have ea : args = #[v0, v1, v2, v3] := by cases args; simp at e0; rw [e0]
  subst ea
  clear e0
  have h0k := h0
  have h1k := h1
  have h2k := h2
  have h3k := h3
  obtain ⟨a0, rfl, w0⟩ := open_num Try.underlying3 (hval 0 3 v0 rfl rfl) h0
  obtain ⟨a1, rfl, w1⟩ := open_num Try.underlying2 (hval 1 2 v1 rfl rfl) h1
  obtain ⟨a2, rfl, w2⟩ := open_num Try.underlying2 (hval 2 2 v2 rfl rfl) h2
  obtain ⟨l3, w3⟩ := open_calls (hval 3 58 v3 rfl rfl) h3
  clear hA0 hval0
  have hlt : ∀ x ∈ p0 ++ (p1 ++ (p2 ++ (p3 ++ []))), x.block < W.heap.size := fun x hx => by
    have := hW'.lt x (by simpa using hx)
    simpa using this
  refine (fnRolling_row a0 a1 a2 v3 l3 W w0 w1 w2 w3).mono fun e W' ⟨he, bel⟩ => ?_
  subst he
  refine ⟨_, rfl, ?_⟩
  refine ⟨_, _, _, [], p0 ++ (p1 ++ (p2 ++ (p3 ++ []))), [], hW', trodAll_mk1 (shut_bool Try.underlying4 true), ?_, rfl, bel.frame _, fun h => by cases h⟩
  exact ⟨p0, _, Below.trod fnRolling_laidOut (by kernel_rfl) (of_decide_eq_true (by kernel_rfl)) h0k bel (fun x hx => hlt x (by simp [hx])), ⟨p1, _, Below.trod fnRolling_laidOut (by kernel_rfl) (of_decide_eq_true (by kernel_rfl)) h1k bel (fun x hx => hlt x (by simp [hx])), ⟨p2, _, Below.trod fnRolling_laidOut (by kernel_rfl) (of_decide_eq_true (by kernel_rfl)) h2k bel (fun x hx => hlt x (by simp [hx])), ⟨p3, _, Below.trod fnRolling_laidOut (by kernel_rfl) (of_decide_eq_true (by kernel_rfl)) h3k bel (fun x hx => hlt x (by simp [hx])), rfl, rfl⟩, rfl⟩, rfl⟩, rfl⟩

theorem fnRolling_holds : Rows.FnRollingSaid :=
  OpenClaim.holds_of_wide 13 Try.f13 rfl rfl rfl rfl rfl rfl rfl ⟨rfl, rfl, rfl, rfl, rfl⟩ rfl rfl rfl rfl rfl (by kernel_rfl) Try.func13 (by kernel_rfl)
    (of_decide_eq_true (by kernel_rfl)) (by unfold Func.isWrapper; first | (rw [if_pos (by decide +kernel)]; kernel_rfl) | (rw [if_neg (by decide +kernel)]; exact ⟨rfl, rfl⟩))
    (fun os started H enc _ => fnRolling_lifted os started H enc)

#print axioms fnRolling_holds
end Go.Proofs.Ytcjklacfoldaoaa
