import Derived.BigQuiet
import Derived.Deep.AppendLies
import Derived.Deep.LoopGhost
import Derived.Deep.DeepCutAuto
import Derived.Test.YtcjklacfoldaoaaRollZ
import Derived.Test.YtcjklacfoldaoaaRows
import Derived.Test.YtcjklacfoldaoaaOpen
/- What calls that take no time are told over a window that rolls (plain). Conditions: the calls are within the bounds, two buckets or more. -/
namespace Go.Proofs.Ytcjklacfoldaoaa
open Go.RowKit

/-- The bucket of each call, and whether it is a success. -/
def hist (b start : Int) : Int → List Call → List (Int × Bool)
  | _, [] => []
  | now, c :: l => ((now + c.wait - start) / b, c.err == 0) :: hist b start (now + c.wait) l
def sumw (l : List Call) : Int := l.foldl (fun n c => n + c.wait) 0
theorem foldw (l : List Call) (n : Int) : l.foldl (fun n c => n + c.wait) n = n + sumw l := by
  unfold sumw
  induction l generalizing n with
  | nil => simp
  | cons c l ih =>
    simp only [List.foldl_cons]
    rw [ih (n + c.wait), ih (0 + c.wait)]
    omega
theorem sumw_cons (c : Call) (l : List Call) : sumw (c :: l) = c.wait + sumw l := by
  show (c :: l).foldl (fun n c => n + c.wait) 0 = _
  rw [List.foldl_cons, foldw]
  omega
theorem sumw_take {l : List Call} {i : Nat} {c : Call} (h : l[i]? = some c) : sumw (l.take (i + 1)) = sumw (l.take i) + c.wait := by
  induction l generalizing i with
  | nil => simp at h
  | cons a l ih =>
    cases i with
    | zero => simp at h; subst h; simp [sumw]
    | succ i =>
      simp at h
      rw [List.take_succ_cons, List.take_succ_cons, sumw_cons, sumw_cons, ih h]
      omega
theorem hist_len (b start now : Int) (l : List Call) : (hist b start now l).length = l.length := by
  induction l generalizing now with
  | nil => rfl
  | cons c l ih => simp [hist, ih]
theorem hist_get {b start now : Int} {l : List Call} {i : Nat} {c : Call} (h : l[i]? = some c) : (hist b start now l)[i]? = some ((now + sumw (l.take i) + c.wait - start) / b, c.err == 0) := by
  induction l generalizing now i with
  | nil => simp at h
  | cons a l ih =>
    cases i with
    | zero => simp at h; subst h; simp [hist, sumw]
    | succ i =>
      simp at h
      rw [hist, List.getElem?_cons_succ, ih h, List.take_succ_cons, sumw_cons]
      rw [show now + a.wait + sumw (l.take i) = now + (a.wait + sumw (l.take i)) by omega]
theorem sumw_nonneg {l : List Call} (h : l.all instOk = true) : 0 ≤ sumw l := by
  induction l with
  | nil => simp [sumw]
  | cons c l ih =>
    simp only [List.all_cons, Bool.and_eq_true] at h
    have := (instOk_parts h.1).1
    have := ih h.2
    rw [sumw_cons]
    omega
theorem sumw_bound {l : List Call} (h : l.all instOk = true) : sumw l ≤ 1000000000000000 * l.length := by
  induction l with
  | nil => simp [sumw]
  | cons c l ih =>
    simp only [List.all_cons, Bool.and_eq_true] at h
    have := (instOk_parts h.1).2.1
    have := ih h.2
    rw [sumw_cons, List.length_cons]
    omega

structure PInv (k : Nat) (b start : Int) (h : List (Int × Bool)) (p : PC) : Prop where
  ri : RI k p.c p.now
  st0 : p.c.state = 0
  per : p.c.period = b
  stt : p.c.start = start
  inv : RInv k h p.c.rc
  ag : p.c.rc.age ≤ (p.now - start) / b

theorem PInv.ageAt {k : Nat} {b start : Int} {h : List (Int × Bool)} {p : PC} (i : PInv k b start h p) (now : Int) : p.c.ageAt now = (now - start) / b := by
  unfold CB.ageAt
  rw [if_neg (by have := i.ri.per; omega), i.stt, i.per]
/-- The counts behind a call. -/
def rcNext (b start : Int) (p : PC) (c : Call) : RC := (p.c.rc.grow ((p.now + c.wait - start) / b)).call (c.err == 0)

theorem PInv.rc {k : Nat} {b start : Int} {h : List (Int × Bool)} {p : PC} (i : PInv k b start h p) (hk : 2 ≤ k) (hh : h.length ≤ 1000) (hb : 0 < b) {c : Call} (w0 : 0 ≤ c.wait) (n1 : p.now + c.wait ≤ 1000000000000000000 + start) :
    RInv k (h ++ [((p.now + c.wait - start) / b, c.err == 0)]) (rcNext b start p c) ∧ (rcNext b start p c).age = (p.now + c.wait - start) / b := by
  have s1 := i.ri.start1
  rw [i.stt] at s1
  have m1 : (p.now - start) / b ≤ (p.now + c.wait - start) / b := Int.ediv_le_ediv hb (by omega)
  have m2 : (p.now + c.wait - start) / b ≤ 1000000000000000000 := Int.le_trans (Int.ediv_le_self _ (by omega)) (by omega)
  obtain ⟨g1, g2⟩ := i.inv.grow (by omega) (by omega) (Int.le_trans i.ag m1) m2
  obtain ⟨c1, c2⟩ := g1.call (by omega) (by omega) (c.err == 0)
  rw [g2] at c1 c2
  exact ⟨c1, c2⟩

theorem exec_live {k : Nat} {b start : Int} {h : List (Int × Bool)} {p : PC} (i : PInv k b start h p) (hk : 2 ≤ k) (hk1 : k ≤ 1000) (i0 b0 tim trip bound : Int) {c : Call} (hc : instOk c = true) (n0 : -3000000000000000000 ≤ p.now) (n1 : p.now + c.wait ≤ 3000000000000000000) :
    execC (winT i0 b0 tim trip bound) p.c (p.now + c.wait) c = (if (!(c.err == 0) && tripB (winT i0 b0 tim trip bound) (rcNext b start p c).tot) = true then ({ p.c with rc := rcNext b start p c, state := 2 } : CB).newGen (p.now + c.wait) else { p.c with rc := rcNext b start p c }) ∧
    (p.c.look (p.now + c.wait)).beforeCode = 0 := by
  obtain ⟨w0, _, hl, _, _, hpn⟩ := instOk_parts hc
  have hJ : RJ k p.c (p.now + c.wait) := i.ri.toRJ.later (by omega)
  have hL := hJ.look hk hk1 (by omega) (by omega)
  have hB := hL.before1
  have e1 : p.c.look (p.now + c.wait) = { p.c with rc := p.c.rc.grow ((p.now + c.wait - start) / b) } := by
    unfold CB.look
    rw [if_pos i.st0, if_neg (by simp [i.ri.expz i.st0]), if_pos (by rw [i.ri.len]; exact hk), i.ageAt]
  have e2 : (p.c.look (p.now + c.wait)).beforeCode = 0 := by
    rw [e1]
    unfold CB.beforeCode
    have s := i.st0
    rw [if_neg (show ¬ p.c.state = 2 by omega), if_neg (fun q => by have : p.c.state = 1 := q.1; omega)]
  have e3 : (p.c.look (p.now + c.wait)).before1 = { p.c with rc := (p.c.rc.grow ((p.now + c.wait - start) / b)).req } := by
    rw [e1]
    unfold CB.before1
    have s := i.st0
    rw [if_neg (show ¬ p.c.state = 2 by omega), if_neg (fun q => by have : p.c.state = 1 := q.1; omega)]
  refine ⟨?_, e2⟩
  unfold execC
  rw [if_pos e2, show p.now + c.wait + c.long = p.now + c.wait by omega]
  unfold CB.after
  rw [hB.same hk, e3, e1]
  have ee : execErr c = c.err := by unfold execErr; rw [hpn]; rfl
  have eo : outB (winT i0 b0 tim trip bound) (execErr c) = false := rfl
  have eg : goodB (winT i0 b0 tim trip bound) (execErr c) = (c.err == 0) := by
    rw [ee]; rfl
  rw [if_neg (fun q => q rfl), eo, if_neg (by simp), eg]
  unfold rcNext RC.call
  cases hg : c.err == 0 with
  | true =>
    unfold CB.onSucc
    rw [if_pos rfl, if_pos i.st0]
    simp
    rfl
  | false =>
    unfold CB.onFail
    rw [if_neg (by simp), if_pos i.st0]
    simp only [Bool.not_false, Bool.true_and, Bool.false_eq_true, if_false]
    rfl

theorem told_live {p : PC} {c : Call} (hc : instOk c = true) (h0 : (p.c.look (p.now + c.wait)).beforeCode = 0) : (execTold p.c (p.now + c.wait) c).ran = true ∧ execNow p.c (p.now + c.wait) c = p.now + c.wait := by
  obtain ⟨_, _, hl, _, _, hpn⟩ := instOk_parts hc
  constructor
  · unfold execTold
    rw [if_pos h0, if_neg (by simp [hpn])]
  · unfold execNow
    rw [if_pos h0]; omega

/-- A breaker that does not trip goes on. -/
theorem PInv.step {k : Nat} {b start : Int} {h : List (Int × Bool)} {p : PC} (i : PInv k b start h p) (hk : 2 ≤ k) (hk1 : k ≤ 1000) (hh : h.length ≤ 1000) (hb : 0 < b) {i0 b0 tim trip bound : Int} {c : Call} (hc : instOk c = true) (n0 : -1000000000000000 ≤ p.now) (n1 : p.now + c.wait ≤ 1000000000000000000)
    (_s0 : -1000000000000000 ≤ start) (_s1 : start ≤ 1000000000000000) (nb : p.now + c.wait ≤ 1000000000000000000 + start) (ht : (!(c.err == 0) && tripB (winT i0 b0 tim trip bound) (rcNext b start p c).tot) = false) :
    PInv k b start (h ++ [((p.now + c.wait - start) / b, c.err == 0)]) (PC.step (winT i0 b0 tim trip bound) p c) ∧ (PC.step (winT i0 b0 tim trip bound) p c).now = p.now + c.wait ∧
    (PC.step (winT i0 b0 tim trip bound) p c).chs = p.chs ∧ (PC.step (winT i0 b0 tim trip bound) p c).c.state = 0 ∧
    ∃ t, (PC.step (winT i0 b0 tim trip bound) p c).out = p.out ++ [t] ∧ t.ran = true ∧ t.cnt = (rcNext b start p c).tot := by
  obtain ⟨w0, _, hl, _, _, hpn⟩ := instOk_parts hc
  obtain ⟨e1, e2⟩ := exec_live i hk hk1 i0 b0 tim trip bound hc (by omega) (by omega)
  rw [ht, if_neg (by simp)] at e1
  obtain ⟨t1, t2⟩ := told_live (p := p) hc e2
  obtain ⟨r1, r2⟩ := i.rc hk hh hb w0 nb (c := c)
  have hJ : RJ k p.c (p.now + c.wait) := i.ri.toRJ.later (by omega)
  have hx := (RI.exec (r := winT i0 b0 tim trip bound) hJ hk hk1 (by omega) (by omega) hl (k := c)).1
  have ec : (PC.step (winT i0 b0 tim trip bound) p c).c = { p.c with rc := rcNext b start p c } := e1
  have en : (PC.step (winT i0 b0 tim trip bound) p c).now = p.now + c.wait := t2
  have eh : (PC.step (winT i0 b0 tim trip bound) p c).chs = p.chs := by
    show p.chs ++ execChs (winT i0 b0 tim trip bound) p.c (p.now + c.wait) c = p.chs
    have hL := hJ.look hk hk1 (by omega) (by omega)
    have hB := hL.before1
    have st1 : (p.c.look (p.now + c.wait)).before1.state = 0 := by
      have q : (p.c.look (p.now + c.wait)).state = 0 := by
        unfold CB.look
        rw [if_pos i.st0, if_neg (by simp [i.ri.expz i.st0])]
        split <;> exact i.st0
      unfold CB.before1
      split
      · exact q
      · split
        · exact q
        · exact q
    have z : execChs (winT i0 b0 tim trip bound) p.c (p.now + c.wait) c = [] := by
      unfold execChs
      rw [if_pos e2, show p.now + c.wait + c.long = p.now + c.wait by omega]
      have z1 : p.c.lookTold (p.now + c.wait) = [] := by unfold CB.lookTold; rw [if_neg (by have := i.st0; omega)]
      rw [z1, List.nil_append]
      unfold CB.afterTold
      rw [hB.same hk]
      have z2 : (p.c.look (p.now + c.wait)).before1.lookTold (p.now + c.wait) = [] := by unfold CB.lookTold; rw [if_neg (by omega)]
      rw [z2, List.nil_append]
      split
      · rfl
      · split
        · rfl
        · split
          · unfold CB.onSuccTold
            rw [if_neg (fun q => by have := q.1; omega)]
          · next hgd =>
            have ee : execErr c = c.err := by unfold execErr; rw [hpn]; rfl
            have eg : goodB (winT i0 b0 tim trip bound) (execErr c) = (c.err == 0) := by rw [ee]; rfl
            rw [eg] at hgd
            have hf : (c.err == 0) = false := by simpa using hgd
            rw [hf, Bool.not_false, Bool.true_and] at ht
            unfold CB.onFailTold
            rw [if_pos st1]
            have e3 : (((p.c.look (p.now + c.wait)).before1).put Cnt.fail (p.c.look (p.now + c.wait)).rc.age).rc = rcNext b start p c := by
              have e1 : p.c.look (p.now + c.wait) = { p.c with rc := p.c.rc.grow ((p.now + c.wait - start) / b) } := by
                unfold CB.look
                rw [if_pos i.st0, if_neg (by simp [i.ri.expz i.st0]), if_pos (by rw [i.ri.len]; exact hk), i.ageAt]
              rw [e1]
              unfold CB.before1
              have s := i.st0
              rw [if_neg (show ¬ p.c.state = 2 by omega), if_neg (fun q => by have : p.c.state = 1 := q.1; omega)]
              unfold rcNext RC.call
              rw [hf]
              rfl
            rw [e3, ht]
            rfl
    rw [z, List.append_nil]
  refine ⟨⟨?_, ?_, ?_, ?_, ?_, ?_⟩, en, eh, by rw [ec]; exact i.st0, ⟨_, rfl, t1, ?_⟩⟩
  · rw [en]; exact hx
  · rw [ec]; exact i.st0
  · rw [ec]; exact i.per
  · rw [ec]; exact i.stt
  · rw [ec]; exact r1
  · rw [ec, en]; exact Int.le_of_eq r2
  · show (execC (winT i0 b0 tim trip bound) p.c (p.now + c.wait) c).rc.tot = _
    rw [e1]

/-- What a request is told of the counts. -/
structure CntIs (k : Nat) (h : List (Int × Bool)) (a : Int) (t : Cnt) : Prop where
  r : t.r = cn (fun x => inW k a x && true) h
  s : t.s = cn (fun x => inW k a x && x.2) h
  f : t.f = cn (fun x => inW k a x && !x.2) h
theorem RInv.cnt {k : Nat} {h : List (Int × Bool)} {c : RC} (i : RInv k h c) : CntIs k h c.age c.tot := ⟨i.lr.tot, i.ls.tot, i.lf.tot⟩

theorem never_run {k : Nat} {b start i0 b0 : Int} (hk : 2 ≤ k) (hk1 : k ≤ 1000) (hb : 0 < b) (s0 : -1000000000000000 ≤ start) (s1 : start ≤ 1000000000000000) (l : List Call) {h : List (Int × Bool)} {p : PC} (i : PInv k b start h p) (m : Nat) (hm : m + l.length ≤ 200) (hh : h.length = m) (ho : p.out.length = m) (hch : p.chs = [])
    (hl : l.all instOk = true) (n0 : -1000000000000000 ≤ p.now) (n1 : p.now ≤ start + 1000000000000000 * m) :
    (PC.run (winT i0 b0 0 5 0) p l).chs = [] ∧ (PC.run (winT i0 b0 0 5 0) p l).c.state = 0 ∧ (∀ j : Nat, j < m → (PC.run (winT i0 b0 0 5 0) p l).out[j]? = p.out[j]?) ∧
    ∀ (j : Nat) (x : Int × Bool), (hist b start p.now l)[j]? = some x → ∃ t, (PC.run (winT i0 b0 0 5 0) p l).out[m + j]? = some t ∧ CntIs k (h ++ (hist b start p.now l).take (j + 1)) x.1 t.cnt := by
  induction l generalizing h p m with
  | nil => exact ⟨hch, i.st0, fun _ _ => rfl, fun j x hx => by simp [hist] at hx⟩
  | cons c l ih =>
    simp only [List.all_cons, Bool.and_eq_true] at hl
    simp only [List.length_cons] at hm
    obtain ⟨w0, w1, _, _, _, _⟩ := instOk_parts hl.1
    have ht : (!(c.err == 0) && tripB (winT i0 b0 0 5 0) (rcNext b start p c).tot) = false := by
      have : tripB (winT i0 b0 0 5 0) (rcNext b start p c).tot = false := rfl
      rw [this, Bool.and_false]
    obtain ⟨q1, q2, q3, q4, t, q5, q6, q7⟩ := i.step hk hk1 (by omega) hb (i0 := i0) (b0 := b0) hl.1 n0 (by omega) s0 s1 (by omega) ht
    obtain ⟨r1, r2⟩ := i.rc hk (by omega) hb w0 (by omega) (c := c)
    obtain ⟨y1, y2, y3, y4⟩ := ih q1 (m + 1) (by omega) (by simp [hh]) (by rw [q5]; simp [ho]) (q3.trans hch) hl.2 (by rw [q2]; omega) (by rw [q2]; omega)
    rw [q2] at y4
    refine ⟨y1, y2, fun j hj => (y3 j (by omega)).trans (by rw [q5, List.getElem?_append_left (by omega)]), fun j x hx => ?_⟩
    cases j with
    | zero =>
      simp only [hist, List.getElem?_cons_zero, Option.some.injEq] at hx
      subst hx
      refine ⟨t, (y3 m (by omega)).trans (by rw [q5, ← ho]; simp), ?_⟩
      rw [q7]
      have := r1.cnt
      rw [r2] at this
      simpa [hist] using this
    | succ j =>
      simp only [hist, List.getElem?_cons_succ] at hx
      obtain ⟨u, u1, u2⟩ := y4 j x hx
      refine ⟨u, by rw [show m + (j + 1) = m + 1 + j by omega]; exact u1, ?_⟩
      simpa [hist, List.append_assoc] using u2

end Go.Proofs.Ytcjklacfoldaoaa

/- The rows that FnRolling makes, and PlayCalls over them. Conditions: the calls are within the bounds. -/
namespace Go.Proofs.Ytcjklacfoldaoaa
open Go.RowKit

def strip (k : Call) : Call := ⟨k.wait, 0, 0, k.err, false⟩
def callFlat (l : List Call) : List Value := l.flatMap callRow
theorem callFlat_snoc (l : List Call) (a : Call) : callFlat (l ++ [a]) = callFlat l ++ callRow a := by simp [callFlat]
theorem callFlat_get {l : List Call} {i : Nat} {x : Call} (h : l[i]? = some x) {j : Nat} (hj : j < 5) : (callFlat l)[i * 5 + j]? = (callRow x)[j]? := by
  induction l generalizing i with
  | nil => simp at h
  | cons a l ih =>
    cases i with
    | zero =>
      simp at h
      subst h
      simp only [callFlat, List.flatMap_cons, Nat.zero_mul, Nat.zero_add]
      rw [List.getElem?_append_left (by simpa [callRow] using hj)]
    | succ i =>
      have e : (i + 1) * 5 + j = (callRow a).length + (i * 5 + j) := by simp [callRow]; omega
      simp only [callFlat, List.flatMap_cons]
      rw [e, List.getElem?_append_right (by omega)]
      have := ih (i := i) (by simpa using h)
      simpa [callFlat] using this
theorem own_calls {w : World} {base : Nat} {v : Value} {l : List Call} (h : w.ownsRow base 57 5 v l.length (callFlat l)) : CallsAt w v l := by
  by_cases hl : l.length = 0
  · obtain ⟨p, cap, rfl⟩ := row_len h
    refine ⟨p, cap, rfl, fun i x hx => ?_⟩
    rw [List.eq_nil_of_length_eq_zero hl] at hx
    simp at hx
  · obtain ⟨g, cap, cs, rfl, hg, _, _, hc⟩ := row_slice h hl
    refine ⟨_, cap, rfl, fun i x hx => ⟨g, 0, rfl, hg, fun j u hu => ?_⟩⟩
    have hj : j < 5 := by
      rcases Nat.lt_or_ge j 5 with q | q
      · exact q
      · rw [List.getElem?_eq_none (by simpa [callRow] using q)] at hu; cases hu
    rw [Nat.zero_add]
    exact hc _ _ ((callFlat_get hx hj).trans hu)
def ageRow (x : Int × Bool) : Value := .int .i64 x.1
theorem infoCall : (Try.prog.info? 57).map (fun i => (i.zero, i.size, i.bytes)) = some (some (.agg #[.int .i64 0, .int .i64 0, .int .i64 0, .int .i64 0, .bool false]), 5, 40) := by kernel_rfl
theorem infoI64 : (Try.prog.info? 2).map (fun i => (i.zero, i.size, i.bytes)) = some (some (.int .i64 0), 1, 8) := by kernel_rfl
theorem hist_strip (b start now : Int) (l : List Call) : hist b start now (l.map strip) = hist b start now l := by
  induction l generalizing now with
  | nil => rfl
  | cons c l ih => simp only [List.map_cons, hist, ih]; rfl
theorem grown_heap {wx wy : World} {row : Option Nat} (g : wx.grownBy wy row) {b : Nat} {x : Obj} (hx : wx.heap[b]? = some x) (hne : row ≠ some b) : wy.heap[b]? = some x := (g.block b (size_of_heap hx) (Ne.symm hne)).trans hx
theorem grown_row {wx wy : World} {v v' : Value} (g : wx.grownBy wy v.ownBlock) {base : Nat} {e : TypeId} {size n : Nat} {xs : List Value} (h : wx.ownsRow base e size v' n xs) (hne : v'.ownBlock = none ∨ v'.ownBlock ≠ v.ownBlock) : wy.ownsRow base e size v' n xs := by
  refine owns_keep h fun k hk => g.block k (h.lt k hk).2 ?_
  rcases hne with q | q
  · rw [q] at hk; cases hk
  · rw [← hk]; exact q

/-- What PlayCalls does with rules that never trip. -/
structure RSaid (k : Nat) (b start : Int) (l : List Call) (q : PC) : Prop where
  len : q.out.length = l.length
  chs : q.chs = []
  st : q.c.state = 0
  cnt : ∀ (j : Nat) (x : Int × Bool), (hist b start start l)[j]? = some x → ∃ t, q.out[j]? = some t ∧ CntIs k ((hist b start start l).take (j + 1)) x.1 t.cnt
  play : ∀ (va : Value) (w : World), CallsAt w va l → Calls Try.prog 26 #[rulesV (winT ((k : Int) * b) b 0 5 0), .int .i64 start, va] w fun e w' =>
      ∃ vo vc, e = .returned (.tuple #[vo, vc, .int .i64 q.c.state]) ∧ w'.ownsRow w.heap.size 63 10 vo q.out.length (toldFlat q.out) ∧ w'.ownsRow w.heap.size 34 2 vc q.chs.length (chFlat q.chs) ∧ Below w.heap.size w w'

theorem fresh_inv {k : Nat} {b start i0 tim trip bound : Int} (hk : 2 ≤ k) (hb : 0 < b) (s0 : -1000000000000000 ≤ start) : PInv k b start [] (PC.fresh (freshR (winT i0 b tim trip bound) k) start) := by
  have hp : 0 < timN (winT i0 b tim trip bound) := by unfold timN; split <;> omega
  have hi : RI k (PC.fresh (freshR (winT i0 b tim trip bound) k) start).c (PC.fresh (freshR (winT i0 b tim trip bound) k) start).now := newGen_ri (c := freshR (winT i0 b tim trip bound) k) hk (by simp [freshR]) (.inl rfl) hb hp (by omega)
  refine ⟨hi, rfl, rfl, rfl, ?_, ?_⟩
  · have := RInv.start k
    have e : (PC.fresh (freshR (winT i0 b tim trip bound) k) start).c.rc = ⟨Cnt.zero, 0, List.replicate k Cnt.zero⟩ := by
      simp [PC.fresh, CB.newGen, RC.clear, freshR]
    rw [e]; exact this
  · show (0 : Int) ≤ (start - start) / b
    simp

set_option maxRecDepth 100000 in
theorem rsaid {k : Nat} {b start : Int} {l : List Call} (hk : 2 ≤ k) (hk9 : k ≤ 9) (hb : 0 < b) (hb1 : b ≤ 62500000000000) (ht : isTime start = true) (hl : l.all instOk = true) (h100 : l.length ≤ 100) : ∃ q, RSaid k b start l q := by
  obtain ⟨s0, s1⟩ := isTime_parts ht
  have BA := buck_k (tim := 0) (trip := 5) (bound := 0) hk hk9 hb hb1 (Int.le_refl 0) hb
  rw [show (k : Int) * b - 0 = (k : Int) * b by omega] at BA
  obtain ⟨y1, y2, _, y4⟩ := never_run (i0 := (k : Int) * b) (b0 := b) hk (by omega) hb s0 s1 l (fresh_inv (i0 := (k : Int) * b) (tim := 0) (trip := 5) (bound := 0) hk hb s0) 0 (by omega) rfl rfl rfl hl s0 (by show start ≤ _; omega)
  refine ⟨PC.run (winT ((k : Int) * b) b 0 5 0) (PC.fresh (freshR (winT ((k : Int) * b) b 0 5 0) k) start) l, ?_, y1, y2, ?_, ?_⟩
  · rw [prun_len]; simp [PC.fresh]
  · intro j x hx
    obtain ⟨t, t1, t2⟩ := y4 j x hx
    exact ⟨t, by rw [Nat.zero_add] at t1; exact t1, by rw [List.nil_append] at t2; exact t2⟩
  · intro va w hv
    exact roll_play BA hk (winT_ok _ _ _ _ _) (show (0 : Int) ≤ 1000000000000000000 by omega) s0 s1 hl h100 hv

end Go.Proofs.Ytcjklacfoldaoaa

/- A breaker with a rolling window trips by its counts (plain). Conditions: the calls are within the bounds, two buckets or more. -/
namespace Go.Proofs.Ytcjklacfoldaoaa
open Go.RowKit

def failN (k : Nat) (H : List (Int × Bool)) (a : Int) (i : Nat) : Int := cn (fun y => inW k a y && !y.2) (H.take i)
/-- Whether the breaker is open ahead of a call. -/
def opens (k : Nat) (most : Int) (H : List (Int × Bool)) : Nat → Bool
  | 0 => false
  | i + 1 => opens k most H i || (match H[i]? with | some x => !x.2 && decide (most ≤ failN k H x.1 (i + 1)) | none => false)
theorem opens_succ {k : Nat} {most : Int} {H : List (Int × Bool)} {i : Nat} {x : Int × Bool} (h : H[i]? = some x) : opens k most H (i + 1) = (opens k most H i || (!x.2 && decide (most ≤ failN k H x.1 (i + 1)))) := by
  rw [opens, h]

structure Live (k : Nat) (b start : Int) (h : List (Int × Bool)) (p : PC) : Prop where
  inv : PInv k b start h p
  tim : p.c.timeout = 1000000000000000

theorem trip_run {k : Nat} {b start i0 b0 most : Int} (hk : 2 ≤ k) (hk1 : k ≤ 1000) (hb : 0 < b) (s0 : -1000000000000000 ≤ start) (s1 : start ≤ 1000000000000000) (l : List Call) {H h : List (Int × Bool)} {p : PC} (m : Nat) (hm : m + l.length ≤ 200) (hh : h.length = m) (ho : p.out.length = m)
    (hH : H = h ++ hist b start p.now l) (hs : (opens k most H m = false ∧ Live k b start h p) ∨ (opens k most H m = true ∧ p.c.state = 2 ∧ start + 1000000000000000 ≤ p.c.exp)) (hl : l.all instOk = true) (n0 : start ≤ p.now) (n1 : p.now + sumw l < start + 1000000000000000) :
    (∀ j : Nat, j < m → (PC.run (winT i0 b0 1000000000000000 2 most) p l).out[j]? = p.out[j]?) ∧
    ∀ j : Nat, j < l.length → ∃ t, (PC.run (winT i0 b0 1000000000000000 2 most) p l).out[m + j]? = some t ∧ t.ran = !opens k most H (m + j) := by
  induction l generalizing h p m with
  | nil => exact ⟨fun _ _ => rfl, fun j hj => absurd hj (Nat.not_lt_zero _)⟩
  | cons c l ih =>
    simp only [List.all_cons, Bool.and_eq_true] at hl
    simp only [List.length_cons] at hm
    obtain ⟨w0, w1, hlong, _, _, hpn⟩ := instOk_parts hl.1
    rw [sumw_cons] at n1
    have sl := sumw_nonneg hl.2
    have hx : H[m]? = some ((p.now + c.wait - start) / b, c.err == 0) := by
      rw [hH, ← hh]
      simp [hist]
    have hH2 : H = (h ++ [((p.now + c.wait - start) / b, c.err == 0)]) ++ hist b start (p.now + c.wait) l := by
      rw [hH]; simp [hist]
    have htake : H.take (m + 1) = h ++ [((p.now + c.wait - start) / b, c.err == 0)] := by
      rw [hH2, List.take_append_of_le_length (by simp [hh]), List.take_of_length_le (by simp [hh])]
    have hos := opens_succ (most := most) (k := k) hx
    -- what is left once the next state is known
    have fin : ∀ (t : Told), (PC.step (winT i0 b0 1000000000000000 2 most) p c).out = p.out ++ [t] → t.ran = (!opens k most H m) → (PC.step (winT i0 b0 1000000000000000 2 most) p c).now = p.now + c.wait →
        ((opens k most H (m + 1) = false ∧ Live k b start (h ++ [((p.now + c.wait - start) / b, c.err == 0)]) (PC.step (winT i0 b0 1000000000000000 2 most) p c)) ∨ (opens k most H (m + 1) = true ∧ (PC.step (winT i0 b0 1000000000000000 2 most) p c).c.state = 2 ∧ start + 1000000000000000 ≤ (PC.step (winT i0 b0 1000000000000000 2 most) p c).c.exp)) →
        (∀ j : Nat, j < m → (PC.run (winT i0 b0 1000000000000000 2 most) p (c :: l)).out[j]? = p.out[j]?) ∧
        ∀ j : Nat, j < (c :: l).length → ∃ t, (PC.run (winT i0 b0 1000000000000000 2 most) p (c :: l)).out[m + j]? = some t ∧ t.ran = !opens k most H (m + j) := by
      intro t q5 q6 q2 q7
      obtain ⟨y3, y4⟩ := ih (h := h ++ [((p.now + c.wait - start) / b, c.err == 0)]) (p := PC.step (winT i0 b0 1000000000000000 2 most) p c) (m + 1) (by omega) (by simp [hh]) (by rw [q5]; simp [ho]) (by rw [q2]; exact hH2) q7 hl.2 (by rw [q2]; omega) (by rw [q2]; omega)
      refine ⟨fun j hj => (y3 j (by omega)).trans (by rw [q5, List.getElem?_append_left (by omega)]), fun j hj => ?_⟩
      cases j with
      | zero => exact ⟨t, (y3 m (by omega)).trans (by rw [q5, ← ho]; simp), q6⟩
      | succ j =>
        obtain ⟨u, u1, u2⟩ := y4 j (by simpa using hj)
        exact ⟨u, by rw [show m + (j + 1) = m + 1 + j by omega]; exact u1, by rw [show m + (j + 1) = m + 1 + j by omega]; exact u2⟩
    rcases hs with ⟨h1, h2⟩ | ⟨h1, h2, h3⟩
    · obtain ⟨e1, e2⟩ := exec_live h2.inv hk hk1 i0 b0 1000000000000000 2 most hl.1 (by omega) (by omega)
      obtain ⟨r1, r2⟩ := h2.inv.rc hk (by omega) hb w0 (by omega) (c := c)
      have ef : (rcNext b start p c).tot.f = failN k H ((p.now + c.wait - start) / b) (m + 1) := by
        unfold failN
        rw [htake]
        have := r1.cnt.f
        rw [r2] at this
        exact this
      have et : tripB (winT i0 b0 1000000000000000 2 most) (rcNext b start p c).tot = decide (most ≤ failN k H ((p.now + c.wait - start) / b) (m + 1)) := by
        rw [← ef]; rfl
      rw [h1, Bool.false_or] at hos
      obtain ⟨t1, t2⟩ := told_live (p := p) hl.1 e2
      cases hT : (!(c.err == 0) && tripB (winT i0 b0 1000000000000000 2 most) (rcNext b start p c).tot) with
      | false =>
        obtain ⟨q1, q2, _, _, t, q5, q6, _⟩ := h2.inv.step hk hk1 (by omega) hb (i0 := i0) (b0 := b0) (tim := 1000000000000000) (trip := 2) (bound := most) hl.1 (by omega) (by omega) s0 s1 (by omega) hT
        refine fin t q5 (by rw [q6, h1]; rfl) q2 (.inl ⟨by rw [hos, ← et]; exact hT, q1, ?_⟩)
        show (execC (winT i0 b0 1000000000000000 2 most) p.c (p.now + c.wait) c).timeout = _
        rw [e1, hT, if_neg (by simp)]
        exact h2.tim
      | true =>
        refine fin _ rfl (by show (execTold p.c (p.now + c.wait) c).ran = _; rw [t1, h1]; rfl) t2 (.inr ⟨by rw [hos, ← et]; exact hT, ?_, ?_⟩)
        · show (execC (winT i0 b0 1000000000000000 2 most) p.c (p.now + c.wait) c).state = 2
          rw [e1, hT, if_pos rfl]
          rfl
        · show start + 1000000000000000 ≤ (execC (winT i0 b0 1000000000000000 2 most) p.c (p.now + c.wait) c).exp
          rw [e1, hT, if_pos rfl]
          show start + 1000000000000000 ≤ CB.expNew ({ p.c with rc := rcNext b start p c, state := 2 } : CB) (p.now + c.wait)
          have ex : CB.expNew ({ p.c with rc := rcNext b start p c, state := 2 } : CB) (p.now + c.wait) = p.now + c.wait + p.c.timeout := rfl
          rw [ex, h2.tim]
          omega
    · have el : p.c.look (p.now + c.wait) = p.c := by
        unfold CB.look
        rw [if_neg (by omega), if_neg (by omega)]
      have ec : (p.c.look (p.now + c.wait)).beforeCode = 1 := by
        rw [el]; unfold CB.beforeCode; rw [if_pos h2]
      have eb : (p.c.look (p.now + c.wait)).before1 = p.c := by
        rw [el]; unfold CB.before1; rw [if_pos h2]
      have ee : execC (winT i0 b0 1000000000000000 2 most) p.c (p.now + c.wait) c = p.c := by
        unfold execC; rw [if_neg (by omega), eb]
      refine fin _ rfl ?_ ?_ (.inr ⟨by rw [hos, h1]; rfl, ?_, ?_⟩)
      · show (execTold p.c (p.now + c.wait) c).ran = _
        unfold execTold
        rw [if_neg (by omega), h1]
        rfl
      · show execNow p.c (p.now + c.wait) c = _
        unfold execNow
        rw [if_neg (by omega)]
      · show (execC (winT i0 b0 1000000000000000 2 most) p.c (p.now + c.wait) c).state = 2
        rw [ee]; exact h2
      · show _ ≤ (execC (winT i0 b0 1000000000000000 2 most) p.c (p.now + c.wait) c).exp
        rw [ee]; exact h3

/-- What PlayCalls does with rules that trip by their failures. -/
structure TrSaid (k : Nat) (b start most : Int) (l : List Call) (q : PC) : Prop where
  len : q.out.length = l.length
  ran : start + sumw l < start + 1000000000000000 → ∀ j : Nat, j < l.length → ∃ t, q.out[j]? = some t ∧ t.ran = !opens k most (hist b start start l) j
  play : ∀ (va : Value) (w : World), CallsAt w va l → Calls Try.prog 26 #[rulesV (winT ((k : Int) * b) b 1000000000000000 2 most), .int .i64 start, va] w fun e w' =>
      ∃ vo vc st, e = .returned (.tuple #[vo, vc, st]) ∧ w'.ownsRow w.heap.size 63 10 vo q.out.length (toldFlat q.out) ∧ Below w.heap.size w w'

set_option maxRecDepth 100000 in
theorem trsaid {k : Nat} {b start most : Int} {l : List Call} (hk : 2 ≤ k) (hk9 : k ≤ 9) (hb : 0 < b) (hb1 : b ≤ 62500000000000) (ht : isTime start = true) (hl : l.all instOk = true) (h100 : l.length ≤ 100) : ∃ q, TrSaid k b start most l q := by
  obtain ⟨s0, s1⟩ := isTime_parts ht
  have BA := buck_k (tim := 1000000000000000) (trip := 2) (bound := most) hk hk9 hb hb1 (Int.le_refl 0) hb
  rw [show (k : Int) * b - 0 = (k : Int) * b by omega] at BA
  refine ⟨PC.run (winT ((k : Int) * b) b 1000000000000000 2 most) (PC.fresh (freshR (winT ((k : Int) * b) b 1000000000000000 2 most) k) start) l, ?_, fun hend => ?_, ?_⟩
  · rw [prun_len]; simp [PC.fresh]
  · obtain ⟨_, y4⟩ := trip_run (i0 := (k : Int) * b) (b0 := b) (most := most) hk (by omega) hb s0 s1 l (H := hist b start start l) (h := []) (p := PC.fresh (freshR (winT ((k : Int) * b) b 1000000000000000 2 most) k) start) 0 (by omega) rfl rfl rfl (.inl ⟨rfl, fresh_inv hk hb s0, rfl⟩) hl (Int.le_refl _) hend
    intro j hj
    obtain ⟨t, t1, t2⟩ := y4 j hj
    rw [Nat.zero_add] at t1 t2
    exact ⟨t, t1, t2⟩
  · intro va w hv
    refine (roll_play BA hk (winT_ok _ _ _ _ _) (show (1000000000000000 : Int) ≤ 1000000000000000000 by omega) s0 s1 hl h100 hv).mono ?_
    rintro e w' ⟨vo, vc, rfl, h1, _, h3⟩
    exact ⟨vo, vc, _, rfl, h1, h3⟩

end Go.Proofs.Ytcjklacfoldaoaa

/- The law FnRollingTrip as a contract: it is true. Condition: the calls can be read. -/
namespace Go.Proofs.Ytcjklacfoldaoaa
open Go.RowKit
attribute [local go_sem ↓] Go.wp_at_zero Go.wp_at_succ

theorem wrapU {n : Int} (h0 : 0 ≤ n) (h1 : n < 4294967296) : IntKind.u32.wrap n = n := by
  show n % 4294967296 = n
  omega
theorem and7u (x : Int) : ∃ m : Nat, (1 : Int) + bits BinOp.and IntKind.u32 x 7 = (m : Int) ∧ 1 ≤ m ∧ m ≤ 8 := by
  have h2 : (BitVec.ofInt 32 7).toNat = 7 := by decide
  have e : bits BinOp.and IntKind.u32 x 7 = IntKind.u32.wrap ((BitVec.ofInt 32 x &&& BitVec.ofInt 32 7).toNat : Int) := rfl
  have hle : (BitVec.ofInt 32 x).toNat &&& 7 ≤ 7 := Nat.and_le_right
  rw [BitVec.toNat_and, h2] at e
  generalize (BitVec.ofInt 32 x).toNat &&& 7 = m at hle e
  rw [wrapU (by omega) (by omega)] at e
  exact ⟨1 + m, by rw [e]; omega, by omega, by omega⟩
theorem below_drewNR {B : Nat} {w : World} (n : Nat) : Below B w (w.drewN n) := ⟨rfl, rfl, rfl, Nat.le_refl _, fun _ _ => rfl⟩
theorem take_ok {l : List Call} (ha : l.all instOk = true) (i : Nat) : (l.take i).all instOk = true := by
  rw [List.all_eq_true] at ha ⊢
  exact fun y hy => ha y (List.mem_of_mem_take hy)
theorem hist_in {b start : Int} {l : List Call} (hb : 0 < b) (ha : l.all instOk = true) (hl : l.length ≤ 100) {i : Nat} {x : Int × Bool} (hx : (hist b start start l)[i]? = some x) : 0 ≤ x.1 ∧ x.1 ≤ 200000000000000000 := by
  have hi : i < l.length := by
    rcases Nat.lt_or_ge i l.length with h | h
    · exact h
    · rw [List.getElem?_eq_none (by rw [hist_len]; exact h)] at hx; cases hx
  have hc : l[i]? = some l[i] := List.getElem?_eq_getElem hi
  rw [hist_get hc] at hx
  simp only [Option.some.injEq] at hx
  subst hx
  have q1 := sumw_nonneg (take_ok ha (i + 1))
  have q2 := sumw_bound (take_ok ha (i + 1))
  rw [sumw_take hc] at q1 q2
  have q3 : (l.take (i + 1)).length ≤ l.length := by simp; omega
  dsimp only
  exact ⟨Int.ediv_nonneg (by omega) (by omega), Int.le_trans (Int.ediv_le_self _ (by omega)) (by omega)⟩
theorem fail_take {k : Nat} {H : List (Int × Bool)} {a : Int} {j : Nat} {x : Int × Bool} (hx : H[j]? = some x) : failN k H a (j + 1) = failN k H a j + (if (inW k a x && !x.2) then 1 else 0) := by
  unfold failN
  rw [List.take_add_one, hx]
  exact cn_snoc _ _ _
theorem fail_small (k : Nat) (H : List (Int × Bool)) (a : Int) (j : Nat) (hj : H.length ≤ 100) : 0 ≤ failN k H a j ∧ failN k H a j ≤ 100 := by
  unfold failN
  have h1 := cn_nonneg (fun y => inW k a y && !y.2) (H.take j)
  have h2 := cn_le (fun y => inW k a y && !y.2) (H.take j)
  have h3 : (H.take j).length ≤ H.length := by simp; omega
  omega
theorem call_err {w wx : World} {p : Option Addr} {l : List Call} (hA : ∀ (i : Nat) (x : Call), l[i]? = some x → ∃ b o : Nat, p = some ⟨b, o, none⟩ ∧ b < w.heap.size ∧ ∀ (j : Nat) (u : Value), (callRow x)[j]? = some u → w.cell? ⟨b, o + i * 5 + j, none⟩ = some u) (hB : Below w.heap.size w wx)
    {i : Nat} {x : Call} (hx : l[i]? = some x) {b o : Nat} (hp : p = some ⟨b, o, none⟩) : wx.cell? ⟨b, o + i * 5 + 3, none⟩ = some (.int .i64 x.err) := by
  obtain ⟨b2, o2, hp2, hb, hc⟩ := hA i x hx
  rw [hp] at hp2
  cases hp2
  exact (hB.cell (p := ⟨b, o + i * 5 + 3, none⟩) hb).trans (hc 3 _ rfl)

set_option maxRecDepth 100000 in
set_option maxHeartbeats 8000000 in
theorem FnRollingTrip_main (n b start mo : Int) (va : Value) (l : List Call) (w : World) (ha : CallsAt w va l) (hnn : l.length ≤ 2147483647) (c0 : ¬ b ≤ 0) (c1 : ¬ 62500000000000 < b) (ht : isTime start = true) (hin0 : inst l = true) :
    Calls Try.prog 15 #[.int .i64 n, .int .i64 b, .int .i64 start, .int .u32 mo, va] w fun e w' => e = .returned (.bool true) ∧ Below w.heap.size w w' := by
  have HAT := Lib.hid ha
  obtain ⟨pa, cap, rfl, hacts⟩ := ha
  have HA := Lib.hid hacts
  obtain ⟨k, hk, k2, k9⟩ := and7i n
  obtain ⟨M, hM, M1, M8⟩ := and7u mo
  have e0 : IntKind.i64.wrap (k : Int) = (k : Int) := wrapI (by omega) (by omega)
  have eM : IntKind.u32.wrap (M : Int) = (M : Int) := wrapU (by omega) (by omega)
  have hii := hin0
  unfold inst at hii
  simp only [Bool.and_eq_true, decide_eq_true_eq] at hii
  have hn := hii.2
  have ALL := Lib.hid hii.1
  have HI := Lib.hid hin0
  have hnz : (l.length : Int) ≤ 2147483647 := by omega
  have d0 : decide (b ≤ 0) = false := by simpa using c0
  have d1 : decide (62500000000000 < b) = false := by simpa using c1
  have hb0 : 0 < b := by omega
  have hbz : ¬ b = 0 := by omega
  have PK := Lib.hid (prod_k k2 k9 (b := b) (by omega) (by omega))
  have ekb : IntKind.i64.wrap ((k : Int) * b) = (k : Int) * b := wrapI (by have := PK.out; omega) (by have := PK.out; omega)
  have HT := Lib.hid ht
  have HS := Lib.hid (isTime_parts ht)
  have CB1 := Lib.hid c1
  clear hacts ht c0 c1 hii hin0
  go_enter Try.func15, Try.ntmps15
  go_wp2_with fail
  refine (isTime_any start _).mono ?_
  rintro e w1 ⟨rfl, rfl⟩
  rw [HT.out]
  go_wp2_with fail
  refine (inst_any _ l _ HAT.out hnn).mono ?_
  rintro e w2 ⟨rfl, hb2⟩
  rw [HI.out]
  have BW := Lib.hid hb2
  clear hb2
  go_wp2_with fail
  go_loopg [12, 13, 54] l.length (fun g s12 s13 s54 wx => ∃ (i : Nat) (now : Int), g = l.length - i ∧ i ≤ l.length ∧ s12 = .int .i64 now ∧ s54 = .int .i64 (i : Int) ∧ Hid (now = start + sumw (l.take i) ∧ Below w2.heap.size w2 wx ∧
    wx.ownsRow w2.heap.size 2 1 s13 i (((hist b start start l).take i).map ageRow)))
  case atStart => exact ⟨0, start, rfl, Nat.zero_le _, rfl, rfl, Lib.hid ⟨by simp [sumw], Below.refl _ _, World.ownsRow_nil _ _ _ _⟩⟩
  case round =>
    obtain ⟨i, now, rfl, hi, rfl, rfl, hh⟩ := hrel
    obtain ⟨hN, hB, hG⟩ := hh.out
    have HN := Lib.hid hN
    have HB := Lib.hid hB
    have HG := Lib.hid hG
    have SW := Lib.hid (show start ≤ now ∧ now ≤ start + 100000000000000000 by
      have q1 := sumw_nonneg (take_ok ALL.out i)
      have q2 := sumw_bound (take_ok ALL.out i)
      have q3 : (l.take i).length ≤ l.length := by simp; omega
      omega)
    clear hh hN hB hG
    by_cases hin : i < l.length
    · have hiz : (i : Int) < (l.length : Int) := by omega
      obtain ⟨a, hla⟩ : ∃ a, l[i]? = some a := ⟨_, List.getElem?_eq_getElem hin⟩
      obtain ⟨ab, ao, rfl, hblk, hcell⟩ := HA.out i a hla
      have hbc := fun j u hj => ((BW.out.trans (HB.out.mono BW.out.size)).cell (p := ⟨ab, ao + i * 5 + j, none⟩) hblk).trans (hcell j u hj)
      have k0 : wr.cell? ⟨ab, ao + i * 5, none⟩ = some (.int .i64 a.wait) := hbc 0 _ rfl
      have q1 := hbc 1 _ rfl
      have q2 := hbc 2 _ rfl
      have q3 := hbc 3 _ rfl
      have q4 := hbc 4 _ rfl
      have LA := Lib.hid hla
      have OKA := Lib.hid (inst_get ALL.out hla)
      clear hbc hcell hla
      go_upto_region 12 with fail
      have HX := Lib.hid (heap_alloc_new wr (Obj.cells (callArr a) 57))
      have HB2 := Lib.hid (HB.out.alloc HB.out.size (Obj.cells (callArr a) 57))
      have HG2 := Lib.hid (own_below HG.out ((Below.refl wr.heap.size wr).alloc (Nat.le_refl _) (Obj.cells (callArr a) 57)))
      unfold callArr at HX HB2 HG2
      obtain ⟨ba, hba⟩ : ∃ k, k = wr.heap.size := ⟨_, rfl⟩
      rw [← hba] at HX
      rw [← hba]
      clear k0 q1 q2 q3 q4 hba HG HB
      generalize (wr.alloc (Obj.cells #[Value.int IntKind.i64 a.wait, Value.int IntKind.i64 a.long, Value.int IntKind.i64 a.val, Value.int IntKind.i64 a.err, Value.bool a.pan] 57)) = W2 at *
      have x2 := blk_cell HX.out
      have z2 := size_of_heap HX.out
      obtain ⟨r1, r2, _, r4, r5, _⟩ := instOk_parts OKA.out
      obtain ⟨j0, hj0, hy0, hy1, hy2⟩ := info_parts infoI64
      have hbase := HB2.out.size
      obtain ⟨N, hNN⟩ : ∃ N, N = now + a.wait := ⟨_, rfl⟩
      have e1 : IntKind.i64.wrap (now + a.wait) = N := by rw [hNN]; exact wrapI (by have := SW.out; have := HS.out; omega) (by have := SW.out; have := HS.out; omega)
      have e2 : IntKind.i64.wrap (N - start) = N - start := wrapI (by have := SW.out; omega) (by have := SW.out; omega)
      obtain ⟨A, hAA⟩ : ∃ A, A = (N - start) / b := ⟨_, rfl⟩
      have e3 : (N - start).tdiv b = A := by rw [hAA]; exact Int.tdiv_eq_ediv_of_nonneg (by have := SW.out; omega)
      have A0 : 0 ≤ A := by rw [hAA]; exact Int.ediv_nonneg (by have := SW.out; omega) (by omega)
      have A1 : A ≤ 200000000000000000 := by rw [hAA]; exact Int.le_trans (Int.ediv_le_self _ (by have := SW.out; omega)) (by have := SW.out; omega)
      have e4 : IntKind.i64.wrap A = A := wrapI (by omega) (by omega)
      have HH := Lib.hid (show (hist b start start l)[i]? = some (A, a.err == 0) by rw [hist_get LA.out, hAA, hNN, HN.out])
      have NN := Lib.hid (show N = start + sumw (l.take (i + 1)) by rw [sumw_take LA.out, hNN, HN.out]; omega)
      clear hNN hAA r1 r2 r4 r5
      by_cases hz : (N - start).tmod b = 0 ∧ N ≠ start
      · have t1 : ((N - start).tmod b == 0) = true := by simpa using hz.1
        have t2 : (N != start) = true := by simpa using hz.2
        have t3 := hz.1
        clear hz
        go_wp2_with fail
        refine (brWorks_any _).mono ?_
        rintro e wz ⟨rfl, hbz⟩
        go_wp2_with fail
        go_ret
        exact ⟨rfl, BW.out.trans ((HB2.out.trans (hbz.mono HB2.out.size)).mono BW.out.size)⟩
      · have goon : ∀ (Z : Prop), (((N - start).tmod b == 0) = false → Z) → (((N - start).tmod b == 0) = true → (N != start) = false → Z) → Z := by
          intro Z z1 z2
          by_cases t : (N - start).tmod b = 0
          · exact z2 (by simpa using t) (by
              have : ¬ N ≠ start := fun q => hz ⟨t, q⟩
              simpa using this)
          · exact z1 (by simpa using t)
        clear hz
        refine goon _ (fun t1 => ?_) (fun t1 t2 => ?_)
        all_goals (
          clear goon
          go_wp2_with (refine wpList_append_lies _ (by rfl) _ _ _ (by rfl) w2.heap.size 2 j0 (.int .i64 0) 1 8 Try.underlying65 hj0 hy0 hy1 hy2 rfl (by omega) u13 i (((hist b start start l).take i).map ageRow) (by rfl) (HG2.out.alloc _) ⟨W2.heap.size, 0, none⟩ 1 1 [.int .i64 A] (by rfl) rfl (World.news_of_block (heap_alloc_new W2 _)) (by intro u hu; simp at hu; subst hu; rfl) (by omega) (by unfold maxLen; omega) (by omega) (by simp; omega) (W2.heap.size + 1) (by simp) ?_; intro g2 cp2 wB hown2 hgrow2 hat2 hlt2)
          go_roundg (l.length - (i + 1))
          case measure => omega
          case rel =>
            refine ⟨i + 1, N, rfl, hin, rfl, by first | rfl | (simp; done), Lib.hid ⟨NN.out, ?_, ?_⟩⟩
            · exact (HB2.out.alloc hbase (Obj.cells #[Value.int IntKind.i64 A] 2)).grown hgrow2 (by simp; omega) (fun k hk => (HG2.out.lt k hk).1)
            · rw [List.take_add_one, HH.out, List.map_append]
              exact hown2)
    · have hiz : ¬ ((i : Int) < (l.length : Int)) := by omega
      have hie : i = l.length := by omega
      obtain ⟨q, hq⟩ := trsaid (most := (M : Int)) k2 k9 hb0 (by have := CB1.out; omega) HT.out ALL.out hn
      have SA := Lib.hid hq
      have hGG := HG.out
      rw [hie, ← hist_len b start start l, List.take_length, hist_len] at hGG
      have HGG := Lib.hid hGG
      have NF := Lib.hid (show now = start + sumw l by rw [HN.out, hie, List.take_length])
      have ELEN := Lib.hid hq.len
      have e2 : IntKind.i64.wrap (now - start) = now - start := wrapI (by have := SW.out; omega) (by have := SW.out; omega)
      clear hq hGG hie HG HN SW
      go_wp2_with fail
      have B3 := Lib.hid (HB.out.alloc HB.out.size (Obj.cells (rulesArr (winT ((k : Int) * b) b 1000000000000000 2 (M : Int))) 24))
      have G3 := Lib.hid (own_below HGG.out ((Below.refl wr.heap.size wr).alloc (Nat.le_refl _) (Obj.cells (rulesArr (winT ((k : Int) * b) b 1000000000000000 2 (M : Int))) 24)))
      refine (SA.out.play _ _ (HAT.out.below (BW.out.trans (B3.out.mono BW.out.size)))).mono ?_
      rintro e w4 ⟨vo, vc, st, rfl, ho, hb4⟩
      rw [ELEN.out] at ho
      have HO := Lib.hid ho
      have B4 := Lib.hid (BW.out.trans ((B3.out.trans (hb4.mono B3.out.size)).mono BW.out.size))
      have HG4 := Lib.hid (own_below G3.out hb4)
      clear ho hb4 HGG HB B3 G3
      obtain ⟨po, co, rfl⟩ := row_len HO.out
      obtain ⟨pg, cg, rfl⟩ := row_len HG4.out
      go_wp2_with fail
      go_loopg [20, 99] l.length (fun g s20 s99 wx => ∃ (i : Nat) (op : Bool), g = l.length - i ∧ i ≤ l.length ∧ s20 = .bool op ∧ s99 = .int .i64 (i : Int) ∧ Hid (op = opens k (M : Int) (hist b start start l) i ∧ Below w4.heap.size w4 wx))
      case atStart => exact ⟨0, false, rfl, Nat.zero_le _, rfl, rfl, Lib.hid ⟨rfl, Below.refl _ _⟩⟩
      case round =>
      obtain ⟨i, op, rfl, hi, rfl, rfl, hh2⟩ := hrel
      obtain ⟨hop, hB2⟩ := hh2.out
      have HOP := Lib.hid hop
      have HB2 := Lib.hid hB2
      clear hh2 hop hB2
      by_cases hin : i < l.length
      · have hiz : (i : Int) < (l.length : Int) := by omega
        have hil : decide ((l.length : Int) ≤ (i : Int)) = false := by simp; omega
        have hil2 : ¬ l.length ≤ i := by omega
        obtain ⟨h, hh⟩ : ∃ h, (hist b start start l)[i]? = some h := ⟨_, List.getElem?_eq_getElem (by rw [hist_len]; exact hin)⟩
        have HHI := Lib.hid hh
        obtain ⟨hx0, hx1⟩ := hist_in hb0 ALL.out hn hh
        obtain ⟨t, htt⟩ : ∃ t, q.out[i]? = some t := ⟨_, List.getElem?_eq_getElem (by rw [ELEN.out]; exact hin)⟩
        have LX := Lib.hid htt
        obtain ⟨a, hla⟩ : ∃ a, l[i]? = some a := ⟨_, List.getElem?_eq_getElem hin⟩
        have LA := Lib.hid hla
        obtain ⟨ab, ao, hpe, hblk, _⟩ := HA.out i a hla
        subst hpe
        have HTO := Lib.hid (own_below HO.out HB2.out)
        obtain ⟨g1, rfl, c1⟩ := row_part HTO.out (by omega)
        have t0 : wr.cell? ⟨g1, i * 10, none⟩ = some (.bool t.ran) := c1 _ _ ((toldFlat_get LX.out (j := 0) (by omega)).trans rfl)
        have t1 : wr.cell? ⟨g1, i * 10 + 1, none⟩ = some (.int .i64 t.val) := c1 _ _ ((toldFlat_get LX.out (j := 1) (by omega)).trans rfl)
        have t2 : wr.cell? ⟨g1, i * 10 + 2, none⟩ = some (.int .i64 t.err) := c1 _ _ ((toldFlat_get LX.out (j := 2) (by omega)).trans rfl)
        have t3 : wr.cell? ⟨g1, i * 10 + 3, none⟩ = some (.bool t.pan) := c1 _ _ ((toldFlat_get LX.out (j := 3) (by omega)).trans rfl)
        have t4 : wr.cell? ⟨g1, i * 10 + 4, none⟩ = some (.int .u32 t.cnt.r) := c1 _ _ ((toldFlat_get LX.out (j := 4) (by omega)).trans rfl)
        have t5 : wr.cell? ⟨g1, i * 10 + 5, none⟩ = some (.int .u32 t.cnt.s) := c1 _ _ ((toldFlat_get LX.out (j := 5) (by omega)).trans rfl)
        have t6 : wr.cell? ⟨g1, i * 10 + 6, none⟩ = some (.int .u32 t.cnt.f) := c1 _ _ ((toldFlat_get LX.out (j := 6) (by omega)).trans rfl)
        have t7 : wr.cell? ⟨g1, i * 10 + 7, none⟩ = some (.int .u32 t.cnt.x) := c1 _ _ ((toldFlat_get LX.out (j := 7) (by omega)).trans rfl)
        have t8 : wr.cell? ⟨g1, i * 10 + 8, none⟩ = some (.int .u32 t.cnt.g) := c1 _ _ ((toldFlat_get LX.out (j := 8) (by omega)).trans rfl)
        have t9 : wr.cell? ⟨g1, i * 10 + 9, none⟩ = some (.int .u32 t.cnt.h) := c1 _ _ ((toldFlat_get LX.out (j := 9) (by omega)).trans rfl)
        clear c1 HTO htt hh hla
        go_upto_region 23 with fail
        have hT8 := heap_alloc_new wr (Obj.cells #[Value.bool t.ran, Value.int IntKind.i64 t.val, Value.int IntKind.i64 t.err, Value.bool t.pan, Value.int IntKind.u32 t.cnt.r, Value.int IntKind.u32 t.cnt.s, Value.int IntKind.u32 t.cnt.f, Value.int IntKind.u32 t.cnt.x, Value.int IntKind.u32 t.cnt.g, Value.int IntKind.u32 t.cnt.h] 63)
        have hB8 := HB2.out.alloc HB2.out.size (Obj.cells #[Value.bool t.ran, Value.int IntKind.i64 t.val, Value.int IntKind.i64 t.err, Value.bool t.pan, Value.int IntKind.u32 t.cnt.r, Value.int IntKind.u32 t.cnt.s, Value.int IntKind.u32 t.cnt.f, Value.int IntKind.u32 t.cnt.x, Value.int IntKind.u32 t.cnt.g, Value.int IntKind.u32 t.cnt.h] 63)
        obtain ⟨tb, htb⟩ : ∃ tb, tb = wr.heap.size := ⟨_, rfl⟩
        rw [← htb] at hT8
        rw [← htb]
        have T8 := Lib.hid hT8
        have B8 := Lib.hid hB8
        clear hB8 htb t0 t1 t2 t3 t4 t5 t6 t7 t8 t9
        generalize (wr.alloc (Obj.cells #[Value.bool t.ran, Value.int IntKind.i64 t.val, Value.int IntKind.i64 t.err, Value.bool t.pan, Value.int IntKind.u32 t.cnt.r, Value.int IntKind.u32 t.cnt.s, Value.int IntKind.u32 t.cnt.f, Value.int IntKind.u32 t.cnt.x, Value.int IntKind.u32 t.cnt.g, Value.int IntKind.u32 t.cnt.h] 63)) = w8 at *
        by_cases hC : 1000000000000000 ≤ now - start
        · have dC : decide (1000000000000000 ≤ now - start) = true := by simpa using hC
          clear hC hT8
          go_wp2_with fail
          refine (brWorks_any _).mono ?_
          rintro e wz ⟨rfl, hbz⟩
          go_wp2_with fail
          go_ret
          exact ⟨rfl, B4.out.trans ((B8.out.trans (hbz.mono B8.out.size)).mono B4.out.size)⟩
        · have dC : decide (1000000000000000 ≤ now - start) = false := by simpa using hC
          obtain ⟨t', ht', hran⟩ := SA.out.ran (by have := NF.out; omega) i hin
          rw [LX.out] at ht'
          cases ht'
          rw [← HOP.out] at hran
          have ei : IntKind.i64.wrap ((i : Int) + 1) = (i : Int) + 1 := wrapI (by omega) (by omega)
          clear hC
          rw [hran] at hT8
          have HRAN := Lib.hid hran
          clear hran T8
          have goop : ∀ (Z : Prop), (op = true → Z) → (op = false → Z) → Z := by
            intro Z z1 z2
            cases op
            · exact z2 rfl
            · exact z1 rfl
          have HT8 := Lib.hid hT8
          clear hT8
          refine goop _ (fun ho => ?_) (fun ho => ?_)
          all_goals (
            clear goop
            subst ho
            have hv := HT8.out
            simp only [Bool.not_true, Bool.not_false] at hv
            have v8 := blk_cell hv
            have z8 := size_of_heap hv
            clear hv
            go_wp2_with fail
            go_loopg [23, 121] (i + 1) (fun g s23 s121 wx => ∃ (j : Nat) (v : Int), g = i + 1 - j ∧ j ≤ i + 1 ∧ s23 = .int .u32 v ∧ s121 = .int .i64 (j : Int) ∧ Hid (v = failN k (hist b start start l) h.1 j ∧ Below w4.heap.size w4 wx))
            case atStart => exact ⟨0, 0, rfl, Nat.zero_le _, rfl, rfl, Lib.hid ⟨rfl, B8.out⟩⟩
            case round =>
              obtain ⟨j, v, rfl, hj, rfl, rfl, hh3⟩ := hrel
              obtain ⟨hV, hB3⟩ := hh3.out
              have HV := Lib.hid hV
              have B3 := Lib.hid hB3
              clear hh3 hV hB3 v8 z8
              have Hl := hist_len b start start l
              have HGR := Lib.hid (own_below HG4.out B3.out)
              have BWX := Lib.hid (B4.out.trans (B3.out.mono B4.out.size))
              have ea : wr.cell? ⟨ab, ao + i * 5 + 3, none⟩ = some (.int .i64 a.err) := call_err HA.out BWX.out LA.out rfl
              have zab : ab < wr.heap.size := Nat.lt_of_lt_of_le hblk BWX.out.size
              by_cases hjn : j < i + 1
              · have hjz : (j : Int) < (i : Int) + 1 := by omega
                have hjl : j < l.length := by omega
                have hjlz : (j : Int) < (l.length : Int) := by omega
                obtain ⟨c, hc⟩ : ∃ c, l[j]? = some c := ⟨_, List.getElem?_eq_getElem hjl⟩
                obtain ⟨y, hy, hyg⟩ : ∃ y, (hist b start start l)[j]? = some y ∧ y.2 = (c.err == 0) := ⟨_, hist_get hc, rfl⟩
                have HY := Lib.hid hy
                have HYG := Lib.hid hyg
                obtain ⟨hy0, hy1⟩ := hist_in hb0 ALL.out hn hy
                obtain ⟨gg, rfl, cG⟩ := row_part HGR.out (by omega)
                have a3 : wr.cell? ⟨ab, ao + j * 5 + 3, none⟩ = some (.int .i64 c.err) := call_err HA.out BWX.out hc rfl
                have aj : wr.cell? ⟨gg, j, none⟩ = some (.int .i64 y.1) := cG _ _ (by rw [List.getElem?_map, hy]; rfl)
                have ai : wr.cell? ⟨gg, i, none⟩ = some (.int .i64 h.1) := cG _ _ (by rw [List.getElem?_map, HHI.out]; rfl)
                have e5 : IntKind.i64.wrap (h.1 - (k : Int)) = h.1 - (k : Int) := wrapI (by omega) (by omega)
                obtain ⟨s30, s31⟩ := fail_small k (hist b start start l) h.1 j (by omega)
                rw [← HV.out] at s30 s31
                have eF : IntKind.u32.wrap (v + 1) = v + 1 := wrapU (by omega) (by omega)
                clear cG hc hy hyg Hl HGR
                by_cases hle : h.1 - (k : Int) < y.1
                · have dle : decide (h.1 - (k : Int) < y.1) = true := by simpa using hle
                  have IW := Lib.hid (show inW k h.1 y = true by unfold inW; simp; omega)
                  clear hle
                  by_cases hg : c.err = 0
                  · have ge : (c.err != 0) = false := by simpa using hg
                    have YG := Lib.hid (show y.2 = true by rw [HYG.out]; simpa using hg)
                    clear hg
                    go_upto_region 31 with fail
                    go_quiet (fail)
                    go_wp2_with fail
                    go_roundg (i + 1 - (j + 1))
                    case measure => omega
                    case rel => exact ⟨j + 1, v, rfl, hjn, rfl, by first | rfl | (simp; done), Lib.hid ⟨by rw [fail_take HY.out, IW.out, YG.out, HV.out]; simp, B3.out.trans (below_drewNR _)⟩⟩
                  · have ge : (c.err != 0) = true := by simpa using hg
                    have YG := Lib.hid (show y.2 = false by rw [HYG.out]; simpa using hg)
                    clear hg
                    go_upto_region 31 with fail
                    go_quiet (fail)
                    go_wp2_with fail
                    go_roundg (i + 1 - (j + 1))
                    case measure => omega
                    case rel => exact ⟨j + 1, v + 1, rfl, hjn, by first | rfl | (simp; done), by first | rfl | (simp; done), Lib.hid ⟨by rw [fail_take HY.out, IW.out, YG.out, HV.out]; simp, B3.out.trans (below_drewNR _)⟩⟩
                · have dle : decide (h.1 - (k : Int) < y.1) = false := by simpa using hle
                  have IW := Lib.hid (show inW k h.1 y = false by unfold inW; simp; omega)
                  clear hle
                  go_upto_region 31 with fail
                  go_quiet (fail)
                  go_wp2_with fail
                  go_roundg (i + 1 - (j + 1))
                  case measure => omega
                  case rel => exact ⟨j + 1, v, rfl, hjn, rfl, by first | rfl | (simp; done), Lib.hid ⟨by rw [fail_take HY.out, IW.out, HV.out]; simp, B3.out.trans (below_drewNR _)⟩⟩
              · have hjz : ¬ ((j : Int) < (i : Int) + 1) := by omega
                have hv := Lib.hid (show v = failN k (hist b start start l) h.1 (i + 1) by rw [HV.out, show j = i + 1 by omega])
                have OS := Lib.hid (opens_succ (most := (M : Int)) (k := k) HHI.out)
                have HE := Lib.hid (show h.2 = (a.err == 0) by
                  have e := HHI.out
                  rw [hist_get LA.out] at e
                  simp only [Option.some.injEq] at e
                  rw [← e])
                clear Hl HGR
                by_cases hg : a.err = 0
                · have ge : (a.err != 0) = false := by simpa using hg
                  have GE := Lib.hid (show h.2 = true by rw [HE.out]; simpa using hg)
                  clear hg
                  go_wp2_with fail
                  go_roundg (l.length - (i + 1))
                  case measure => omega
                  case rel => exact ⟨i + 1, _, rfl, hin, rfl, by first | rfl | (simp; done), Lib.hid ⟨by rw [OS.out, ← HOP.out, GE.out]; rfl, B3.out⟩⟩
                · have ge : (a.err != 0) = true := by simpa using hg
                  have GE := Lib.hid (show h.2 = false by rw [HE.out]; simpa using hg)
                  clear hg
                  by_cases hm : (M : Int) ≤ v
                  · have dm : decide ((M : Int) ≤ v) = true := by simpa using hm
                    have DM := Lib.hid (show decide ((M : Int) ≤ failN k (hist b start start l) h.1 (i + 1)) = true by rw [← hv.out]; exact dm)
                    clear hm
                    go_wp2_with fail
                    go_roundg (l.length - (i + 1))
                    case measure => omega
                    case rel => exact ⟨i + 1, _, rfl, hin, rfl, by first | rfl | (simp; done), Lib.hid ⟨by rw [OS.out, ← HOP.out, GE.out, DM.out]; rfl, B3.out⟩⟩
                  · have dm : decide ((M : Int) ≤ v) = false := by simpa using hm
                    have DM := Lib.hid (show decide ((M : Int) ≤ failN k (hist b start start l) h.1 (i + 1)) = false by rw [← hv.out]; exact dm)
                    clear hm
                    go_wp2_with fail
                    go_roundg (l.length - (i + 1))
                    case measure => omega
                    case rel => exact ⟨i + 1, _, rfl, hin, rfl, by first | rfl | (simp; done), Lib.hid ⟨by rw [OS.out, ← HOP.out, GE.out, DM.out]; rfl, B3.out⟩⟩)
      · have hiz : ¬ ((i : Int) < (l.length : Int)) := by omega
        have B5 := Lib.hid (B4.out.trans (HB2.out.mono B4.out.size))
        have ee : ((l.length : Int) == (l.length : Int)) = true := by simp
        go_wp2_with fail
        refine (brWorks_any _).mono ?_
        rintro e wz ⟨rfl, hbz⟩
        go_wp2_with fail
        go_ret
        exact ⟨rfl, B5.out.trans (hbz.mono B5.out.size)⟩


set_option maxRecDepth 100000 in
set_option maxHeartbeats 4000000 in
theorem FnRollingTrip_any (n b start mo : Int) (va : Value) (l : List Call) (w : World) (ha : CallsAt w va l) :
    Calls Try.prog 15 #[.int .i64 n, .int .i64 b, .int .i64 start, .int .u32 mo, va] w fun e w' => e = .returned (.bool true) ∧ Below w.heap.size w w' := by
  by_cases hn : l.length ≤ 2147483647
  · have hnz : (l.length : Int) ≤ 2147483647 := by omega
    by_cases c0 : b ≤ 0
    · obtain ⟨pa, cap, rfl, _⟩ := ha
      have d0 : decide (b ≤ 0) = true := by simpa using c0
      clear c0
      go_enter Try.func15, Try.ntmps15
      go_wp2_with fail
      refine (brWorks_any _).mono ?_
      rintro e wz ⟨rfl, hbz⟩
      go_wp2_with fail
      go_ret
      exact ⟨rfl, hbz⟩
    · by_cases c1 : 62500000000000 < b
      · obtain ⟨pa, cap, rfl, _⟩ := ha
        have d0 : decide (b ≤ 0) = false := by simpa using c0
        have d1 : decide (62500000000000 < b) = true := by simpa using c1
        clear c0 c1
        go_enter Try.func15, Try.ntmps15
        go_wp2_with fail
        refine (brWorks_any _).mono ?_
        rintro e wz ⟨rfl, hbz⟩
        go_wp2_with fail
        go_ret
        exact ⟨rfl, hbz⟩
      · cases ht : isTime start with
        | false =>
          obtain ⟨pa, cap, rfl, _⟩ := ha
          have d0 : decide (b ≤ 0) = false := by simpa using c0
          have d1 : decide (62500000000000 < b) = false := by simpa using c1
          have HT := Lib.hid ht
          clear c0 c1 ht
          go_enter Try.func15, Try.ntmps15
          go_wp2_with fail
          refine (isTime_any start _).mono ?_
          rintro e w1 ⟨rfl, rfl⟩
          rw [HT.out]
          go_wp2_with fail
          refine (brWorks_any _).mono ?_
          rintro e wz ⟨rfl, hbz⟩
          go_wp2_with fail
          go_ret
          exact ⟨rfl, hbz⟩
        | true =>
          cases hi : inst l with
          | true => exact FnRollingTrip_main n b start mo va l w ha hn c0 c1 ht hi
          | false =>
            have HAT := Lib.hid ha
            obtain ⟨pa, cap, rfl, _⟩ := ha
            have d0 : decide (b ≤ 0) = false := by simpa using c0
            have d1 : decide (62500000000000 < b) = false := by simpa using c1
            have HT := Lib.hid ht
            have HI := Lib.hid hi
            clear c0 c1 ht hi
            go_enter Try.func15, Try.ntmps15
            go_wp2_with fail
            refine (isTime_any start _).mono ?_
            rintro e w1 ⟨rfl, rfl⟩
            rw [HT.out]
            go_wp2_with fail
            refine (inst_any _ l _ HAT.out hn).mono ?_
            rintro e w2 ⟨rfl, hb2⟩
            rw [HI.out]
            go_wp2_with fail
            refine (brWorks_any _).mono ?_
            rintro e wz ⟨rfl, hbz⟩
            go_wp2_with fail
            go_ret
            exact ⟨rfl, hb2.trans (hbz.mono hb2.size)⟩
  · obtain ⟨pa, cap, rfl, _⟩ := ha
    have hnz : ¬ ((l.length : Int) ≤ 2147483647) := by omega
    go_enter Try.func15, Try.ntmps15
    go_wp2_with fail
    go_ret
    exact ⟨rfl, Below.refl _ _⟩

theorem fnRollingTrip_row (n b start mo : Int) (va : Value) (l : List Call) (w : World) (_ : IntKind.i64.min ≤ n ∧ n ≤ IntKind.i64.max) (_ : IntKind.i64.min ≤ b ∧ b ≤ IntKind.i64.max) (_ : IntKind.i64.min ≤ start ∧ start ≤ IntKind.i64.max) (_ : IntKind.u32.min ≤ mo ∧ mo ≤ IntKind.u32.max) (ha : CallsAt w va l) :
    Calls Try.prog 15 #[.int .i64 n, .int .i64 b, .int .i64 start, .int .u32 mo, va] w fun e w' => e = .returned (.bool true) ∧ Below w.heap.size w w' := FnRollingTrip_any n b start mo va l w ha

end Go.Proofs.Ytcjklacfoldaoaa

/- The row of FnRollingTrip: it is true whatever the input, and the input reads as it did. No condition. -/
namespace Go.Proofs.Ytcjklacfoldaoaa
open Go.ChangeShapes Go.WideShapes Go.ChangeAt Go.RowKit Go.Deep

theorem fnRollingTrip_own : ownKnob Try.prog.godebug = none := by kernel_rfl
theorem fnRollingTrip_laidOut : laidOutB Try.prog = true := by kernel_rfl

set_option maxRecDepth 100000 in
theorem fnRollingTrip_lifted (os : Os) (started : os.Started) (H : Type) (enc : TypeId × Value → H) :
    ReturnsInHanded {} Try.checked os 15 .any (Rows.fnRollingTripSpec.pre6 enc Try.prog Try.f15 Rows.fnRollingTripRow.domain false) (Rows.fnRollingTripSpec.post enc Try.prog Try.f15 false true false false) := by
  refine returnsInHanded_of_change (C := Try.checked) fnRollingTrip_own started (by kernel_rfl) Try.func15
    (ChangeSpec.witness6 (enc := enc) (C := Try.checked) false ⟨#[], #[.int .i64 0, .int .i64 0, .int .i64 0, .int .u32 0, .slice none 0 0], []⟩ 20 (by kernel_rfl) (by kernel_rfl) (by kernel_rfl) (by kernel_rfl)) ?_
  intro W base args ds gs before hval0 hW hcnd _
  have hval : ∀ (j : Nat) t v, Try.f15.params[j]? = some t → args[j]? = some v → Value.okWide Try.prog W .any base t v := hval0
  have hW' := hW
  obtain ⟨p, q, hA0, hV, rfl, hfz, hnd⟩ := hW
  have hA : DataW.TrodAll enc Try.prog W 0 (fun _ => true) true Try.f15.params.toList args.toList ds p := hA0
  rw [Try.params15] at hA hval
  obtain ⟨v0, vs0, d0, ds0, p0, q0, e0, rfl, rfl, h0, g0⟩ := trodAll_cons hA
  obtain ⟨v1, vs1, d1, ds1, p1, q1, e1, rfl, rfl, h1, g1⟩ := trodAll_cons g0
  obtain ⟨v2, vs2, d2, ds2, p2, q2, e2, rfl, rfl, h2, g2⟩ := trodAll_cons g1
  obtain ⟨v3, vs3, d3, ds3, p3, q3, e3, rfl, rfl, h3, g3⟩ := trodAll_cons g2
  obtain ⟨v4, vs4, d4, ds4, p4, q4, e4, rfl, rfl, h4, g4⟩ := trodAll_cons g3
  obtain ⟨rfl, rfl, rfl⟩ := trodAll_nil g4
  obtain ⟨rfl, rfl⟩ := trodVars_none hV
  subst e4
  subst e3
  subst e2
  subst e1
  have ea : args = #[v0, v1, v2, v3, v4] := by cases args; simp at e0; rw [e0]
  subst ea
  clear e0
  have h0k := h0
  have h1k := h1
  have h2k := h2
  have h3k := h3
  have h4k := h4
  obtain ⟨a0, rfl, w0⟩ := open_num Try.underlying3 (hval 0 3 v0 rfl rfl) h0
  obtain ⟨a1, rfl, w1⟩ := open_num Try.underlying2 (hval 1 2 v1 rfl rfl) h1
  obtain ⟨a2, rfl, w2⟩ := open_num Try.underlying2 (hval 2 2 v2 rfl rfl) h2
  obtain ⟨a3, rfl, w3⟩ := open_num Try.underlying22 (hval 3 22 v3 rfl rfl) h3
  obtain ⟨l4, w4⟩ := open_calls (hval 4 58 v4 rfl rfl) h4
  clear hA0 hval0
  have hlt : ∀ x ∈ p0 ++ (p1 ++ (p2 ++ (p3 ++ (p4 ++ [])))), x.block < W.heap.size := fun x hx => by
    have := hW'.lt x (by simpa using hx)
    simpa using this
  refine (fnRollingTrip_row a0 a1 a2 a3 v4 l4 W w0 w1 w2 w3 w4).mono fun e W' ⟨he, bel⟩ => ?_
  subst he
  refine ⟨_, rfl, ?_⟩
  refine ⟨_, _, _, [], p0 ++ (p1 ++ (p2 ++ (p3 ++ (p4 ++ [])))), [], hW', trodAll_mk1 (shut_bool Try.underlying4 true), ?_, rfl, bel.frame _, fun h => by cases h⟩
  exact ⟨p0, _, Below.trod fnRollingTrip_laidOut (by kernel_rfl) (of_decide_eq_true (by kernel_rfl)) h0k bel (fun x hx => hlt x (by simp [hx])), ⟨p1, _, Below.trod fnRollingTrip_laidOut (by kernel_rfl) (of_decide_eq_true (by kernel_rfl)) h1k bel (fun x hx => hlt x (by simp [hx])), ⟨p2, _, Below.trod fnRollingTrip_laidOut (by kernel_rfl) (of_decide_eq_true (by kernel_rfl)) h2k bel (fun x hx => hlt x (by simp [hx])), ⟨p3, _, Below.trod fnRollingTrip_laidOut (by kernel_rfl) (of_decide_eq_true (by kernel_rfl)) h3k bel (fun x hx => hlt x (by simp [hx])), ⟨p4, _, Below.trod fnRollingTrip_laidOut (by kernel_rfl) (of_decide_eq_true (by kernel_rfl)) h4k bel (fun x hx => hlt x (by simp [hx])), rfl, rfl⟩, rfl⟩, rfl⟩, rfl⟩, rfl⟩

theorem fnRollingTrip_holds : Rows.FnRollingTripSaid :=
  OpenClaim.holds_of_wide 15 Try.f15 rfl rfl rfl rfl rfl rfl rfl ⟨rfl, rfl, rfl, rfl, rfl⟩ rfl rfl rfl rfl rfl (by kernel_rfl) Try.func15 (by kernel_rfl)
    (of_decide_eq_true (by kernel_rfl)) (by unfold Func.isWrapper; first | (rw [if_pos (by decide +kernel)]; kernel_rfl) | (rw [if_neg (by decide +kernel)]; exact ⟨rfl, rfl⟩))
    (fun os started H enc _ => fnRollingTrip_lifted os started H enc)

#print axioms fnRollingTrip_holds
end Go.Proofs.Ytcjklacfoldaoaa
