/- The breaker and the statements' breaker do the same. Conditions: the rules and the acts are within the bounds, and nothing comes at the very end of a time. -/
import Derived.Test.YtcjklacfoldaoaaSpecK
namespace Go.Proofs.Ytcjklacfoldaoaa
open Go.RowKit

/-- A breaker and the statements' breaker say the same. -/
structure CRel (r : Rules) (c : CB) (s : SB) : Prop where
  st : c.state = s.state
  cnt : c.rc.tot = s.cnt
  len : c.rc.bs.length = 1
  age : c.rc.age = 0
  most : c.maxReq = mostN r
  int : c.interval = intN r
  tim : c.timeout = timN r
  gen : c.gen = 1 + s.cleared
  cl0 : 0 ≤ s.cleared
  exp : c.exp = if s.timed then s.fin else T0
  fin : s.timed = true → -5000000000000000000 ≤ s.fin
  tim1 : s.state = 1 → s.timed = false
  tim2 : s.state = 2 → s.timed = true
  three : s.Three
  x0 : s.state = 1 → s.cnt.x = 0
  r0 : 0 ≤ s.cnt.r
  r1 : s.cnt.r < 4294967296
  opn : s.opn = false

theorem w64u_small {n : Int} (h0 : 0 ≤ n) (h1 : n ≤ 9000000000000000000) : w64u n = n := by
  show n % 18446744073709551616 = n
  omega
theorem T0_val : T0 = -62135596800000000000 := rfl

theorem most_same {r : Rules} (m : r.Mild) : mostN r = mostS r := by
  unfold mostN mostS
  have := m.m0
  split <;> split <;> omega

theorem CRel.clear {r : Rules} {c : CB} {s : SB} {now : Int} (m : r.Mild) (hst : c.state = s.state) (hlen : c.rc.bs.length = 1) (hmost : c.maxReq = mostN r) (hint : c.interval = intN r) (htim : c.timeout = timN r) (hgen : c.gen = 1 + s.cleared) (h0 : 0 ≤ s.cleared) (h1 : s.cleared ≤ 1000000) (h3 : s.Three) (ho : s.opn = false)
    (n0 : -3000000000000000000 ≤ now) (n1 : now ≤ 3000000000000000000) : CRel r (c.newGen now) (SB.clear r now s) := by
  have i0 := m.i0
  have i1 := m.i1
  have j0 := m.j0
  have j1 := m.j1
  have hcl : w64u (s.cleared + 1) = s.cleared + 1 := w64u_small (by omega) (by omega)
  have hg : w64u (c.gen + 1) = 1 + (s.cleared + 1) := by rw [hgen, w64u_small (by omega) (by omega)]; omega
  refine ⟨hst, rfl, by simp [CB.newGen, RC.clear, hlen], rfl, hmost, hint, htim, ?_, ?_, ?_, ?_, ?_, ?_, h3, fun _ => rfl, by simp [SB.clear, Cnt.zero], by simp [SB.clear, Cnt.zero], ho⟩
  · show w64u (c.gen + 1) = 1 + w64u (s.cleared + 1)
    rw [hcl, hg]
  · show 0 ≤ w64u (s.cleared + 1)
    omega
  · show c.expNew now = _
    unfold CB.expNew SB.clear
    dsimp only
    rw [hst, hint, htim, hlen]
    rcases h3 with h | h | h
    · simp only [if_pos h]
      unfold intN
      by_cases hi : r.interval ≤ 0
      · rw [if_pos hi, if_pos (c := (0 : Int) = 0 ∨ 2 ≤ 1) (.inl rfl), decide_eq_false (show ¬ 0 < r.interval by omega)]; rfl
      · rw [if_neg hi, if_neg (c := r.interval = 0 ∨ 2 ≤ 1) (by omega), decide_eq_true (show 0 < r.interval by omega)]; rfl
    · have k0 : ¬ s.state = 0 := by omega
      have k2 : ¬ s.state = 2 := by omega
      simp only [if_neg k0, if_neg k2]
      rfl
    · have k0 : ¬ s.state = 0 := by omega
      simp only [if_neg k0, if_pos h, if_true]
      unfold timN
      split <;> rfl
  · intro ht
    unfold SB.clear at ht ⊢
    dsimp only at ht ⊢
    rcases h3 with h | h | h
    · rw [if_pos h]; omega
    · rw [if_neg (by omega), if_neg (by omega)] at ht; cases ht
    · rw [if_neg (by omega), if_pos h]; split <;> omega
  · intro h
    have h' : s.state = 1 := h
    unfold SB.clear
    dsimp only
    rw [if_neg (by omega), if_neg (by omega)]
  · intro h
    have h' : s.state = 2 := h
    unfold SB.clear
    dsimp only
    rw [if_neg (by omega), if_pos h']

/-- The state changes. -/
theorem CRel.set {r : Rules} {c : CB} {s : SB} {st now : Int} (m : r.Mild) (hlen : c.rc.bs.length = 1) (hmost : c.maxReq = mostN r) (hint : c.interval = intN r) (htim : c.timeout = timN r) (hgen : c.gen = 1 + s.cleared) (h0 : 0 ≤ s.cleared) (h1 : s.cleared ≤ 1000000) (h3 : st = 0 ∨ st = 1 ∨ st = 2) (ho : s.opn = false)
    (n0 : -3000000000000000000 ≤ now) (n1 : now ≤ 3000000000000000000) : CRel r (({ c with state := st } : CB).newGen now) (SB.set r st now s) :=
  CRel.clear (c := { c with state := st }) (s := { s with chs := s.chs ++ [(s.state, st)], state := st }) m rfl hlen hmost hint htim hgen h0 h1 h3 ho n0 n1

/-- How often the counts are cleared, ahead of a step and behind it. -/
structure Went (s s' : SB) : Prop where
  le : s.cleared ≤ s'.cleared
  ge : s'.cleared ≤ s.cleared + 2
  op : s'.state = 2 → s.cleared < s'.cleared ∨ (s.state = 2 ∧ s'.cleared = s.cleared)
theorem clear_cleared (r : Rules) (now : Int) (s : SB) (h0 : 0 ≤ s.cleared) (h1 : s.cleared ≤ 1000000) : (SB.clear r now s).cleared = s.cleared + 1 := w64u_small (by omega) (by omega)
theorem set_cleared (r : Rules) (st now : Int) (s : SB) (h0 : 0 ≤ s.cleared) (h1 : s.cleared ≤ 1000000) : (SB.set r st now s).cleared = s.cleared + 1 := w64u_small (by dsimp only; omega) (by dsimp only; omega)
theorem set_state (r : Rules) (st now : Int) (s : SB) : (SB.set r st now s).state = st := rfl
theorem set_chs (r : Rules) (st now : Int) (s : SB) : (SB.set r st now s).chs = s.chs ++ [(s.state, st)] := rfl

/-- Nothing is said of the very end of a time. -/
theorem look_opn {r : Rules} {s : SB} {now : Int} (h : (s.look r now).opn = false) (ht : s.timed = true) : s.opn = false ∧ now ≠ s.fin := by
  unfold SB.look at h
  rw [if_neg (by simp [ht])] at h
  split at h
  · simpa using h
  · split at h
    · simpa [SB.clear] using h
    · simpa [SB.set, SB.clear] using h
theorem look_opn0 {r : Rules} {s : SB} {now : Int} (h : (s.look r now).opn = false) : s.opn = false := by
  by_cases ht : s.timed = true
  · exact (look_opn h ht).1
  · unfold SB.look at h; rw [if_pos (by simpa using ht)] at h; exact h
theorem SB.opn_eta {s : SB} {x : Bool} (h : s.opn = false) (hx : x = false) : ({ s with opn := s.opn || x } : SB) = s := by
  cases s; simp at h; subst h; subst hx; rfl

theorem CRel.look {r : Rules} {c : CB} {s : SB} {now : Int} (m : r.Mild) (h : CRel r c s) (h1 : s.cleared ≤ 999990) (n0 : -3000000000000000000 ≤ now) (n1 : now ≤ 3000000000000000000) (ho : (s.look r now).opn = false) :
    CRel r (c.look now) (s.look r now) ∧ (s.look r now).chs = s.chs ++ c.lookTold now ∧ s.cleared ≤ (s.look r now).cleared ∧ (s.look r now).cleared ≤ s.cleared + 1 ∧ ((s.look r now).state = 2 → s.state = 2 ∧ (s.look r now).cleared = s.cleared) := by
  have hT := T0_val
  by_cases ht : s.timed = true
  · obtain ⟨o1, o2⟩ := look_opn ho ht
    have he : c.exp = s.fin := by rw [h.exp, if_pos ht]
    have hf := h.fin ht
    have hx : (now == s.fin) = false := by simpa using o2
    unfold SB.look
    rw [if_neg (by simp [ht]), SB.opn_eta o1 hx]
    by_cases hl : now ≤ s.fin
    · have e1 : c.look now = c := by
        unfold CB.look
        rw [h.len, if_neg (c := c.exp ≠ T0 ∧ c.exp < now) (by omega), if_neg (c := c.state = 2 ∧ c.exp < now) (by omega)]
        split
        · rw [if_neg (by omega)]
        · rfl
      have e2 : c.lookTold now = [] := by unfold CB.lookTold; rw [if_neg (by omega)]
      rw [if_pos hl, e1, e2]
      exact ⟨h, by simp, by omega, by omega, fun x => ⟨x, rfl⟩⟩
    · rw [if_neg hl]
      by_cases hs : s.state = 0
      · have e1 : c.look now = c.newGen now := by
          unfold CB.look
          rw [if_pos (by rw [h.st]; exact hs), if_pos ⟨by omega, by omega⟩]
        have e2 : c.lookTold now = [] := by unfold CB.lookTold; rw [if_neg (by rw [h.st]; omega)]
        rw [if_pos hs, e1, e2]
        refine ⟨CRel.clear m h.st h.len h.most h.int h.tim h.gen h.cl0 (by omega) h.three o1 n0 n1, by simp [SB.clear], ?_, ?_, ?_⟩
        · rw [clear_cleared r now s h.cl0 (by omega)]; omega
        · rw [clear_cleared r now s h.cl0 (by omega)]; omega
        · intro x; have x' : s.state = 2 := x; omega
      · have hs2 : s.state = 2 := by
          rcases h.three with x | x | x
          · exact absurd x hs
          · rw [h.tim1 x] at ht; cases ht
          · exact x
        have e1 : c.look now = ({ c with state := 1 } : CB).newGen now := by
          unfold CB.look
          rw [if_neg (by rw [h.st]; exact hs), if_pos ⟨by rw [h.st]; exact hs2, by omega⟩]
        have e2 : c.lookTold now = [(2, 1)] := by unfold CB.lookTold; rw [if_pos ⟨by rw [h.st]; exact hs2, by omega⟩]
        rw [if_neg hs, e1, e2]
        refine ⟨CRel.set m h.len h.most h.int h.tim h.gen h.cl0 (by omega) (.inr (.inl rfl)) o1 n0 n1, by rw [set_chs, hs2], ?_, ?_, ?_⟩
        · rw [set_cleared r 1 now s h.cl0 (by omega)]; omega
        · rw [set_cleared r 1 now s h.cl0 (by omega)]; omega
        · intro x; rw [set_state] at x; omega
  · have ht' : s.timed = false := by simpa using ht
    have he : c.exp = T0 := by rw [h.exp, if_neg ht]
    have hs2 : s.state ≠ 2 := fun x => ht (h.tim2 x)
    have e0 : s.look r now = s := by unfold SB.look; rw [if_pos ht']
    have e1 : c.look now = c := by
      unfold CB.look
      rw [h.len, h.st, if_neg (c := c.exp ≠ T0 ∧ c.exp < now) (by simp [he]), if_neg (c := s.state = 2 ∧ c.exp < now) (by omega)]
      split
      · rw [if_neg (by omega)]
      · rfl
    have e2 : c.lookTold now = [] := by unfold CB.lookTold; rw [if_neg (by rw [h.st]; omega)]
    rw [e0, e1, e2]
    exact ⟨h, by simp, by omega, by omega, fun x => ⟨x, rfl⟩⟩

theorem put_tot {c : CB} (hlen : c.rc.bs.length = 1) (hage : c.rc.age = 0) (k : Cnt → Cnt) : (c.put k 0).rc.tot = k c.rc.tot ∧ (c.put k 0).rc.bs.length = 1 ∧ (c.put k 0).rc.age = 0 := by
  unfold CB.put RC.on
  dsimp only
  rw [if_neg (by omega), if_pos (by omega)]
  exact ⟨rfl, by simp [hlen], hage⟩

theorem CRel.allow {r : Rules} {c : CB} {s : SB} (m : r.Mild) (h : CRel r c s) : CRel r c.before1 (s.allow1 r) ∧ c.beforeCode = s.allowCode r := by
  have hv : s.state = 1 → c.rc.tot.valid = s.cnt.r := by
    intro hs
    have := h.x0 hs
    have a := h.r0
    have b := h.r1
    unfold Cnt.valid
    rw [h.cnt, this, if_neg (by omega)]
    unfold w32
    omega
  have hcode : c.beforeCode = s.allowCode r := by
    unfold CB.beforeCode SB.allowCode
    rw [h.st, h.most, most_same m]
    by_cases hs : s.state = 1
    · rw [hv hs]
    · rw [if_neg (c := s.state = 1 ∧ mostS r ≤ c.rc.tot.valid) (by omega), if_neg (c := s.state = 1 ∧ mostS r ≤ s.cnt.r) (by omega)]
  refine ⟨?_, hcode⟩
  have hb : c.before1 = if c.beforeCode = 0 then { c with rc := c.rc.req } else c := by
    unfold CB.before1 CB.beforeCode
    split
    · rfl
    · split <;> rfl
  rw [hb, hcode]
  unfold SB.allow1
  split
  · exact ⟨h.st, by simp [RC.req, Cnt.req, h.cnt], by simpa [RC.req] using h.len, h.age, h.most, h.int, h.tim, h.gen, h.cl0, h.exp, h.fin, h.tim1, h.tim2, h.three, h.x0, by unfold w32; dsimp only; omega, by unfold w32; dsimp only; omega, h.opn⟩
  · exact h

/-- One kind of counting, that leaves the number of requests as it is. -/
theorem CRel.put {r : Rules} {c : CB} {s : SB} (h : CRel r c s) (k : Cnt → Cnt) (hk : ∀ x, (k x).r = x.r) (hx : s.state = 1 → ∀ x, (k x).x = x.x) : CRel r (c.put k 0) { s with cnt := k s.cnt } := by
  obtain ⟨p1, p2, p3⟩ := put_tot h.len h.age k
  exact ⟨h.st, by rw [p1, h.cnt], p2, p3, h.most, h.int, h.tim, h.gen, h.cl0, h.exp, h.fin, h.tim1, h.tim2, h.three, fun hs => (hx hs _).trans (h.x0 hs), by rw [hk]; exact h.r0, by rw [hk]; exact h.r1, h.opn⟩

theorem done1_opn {r : Rules} {s : SB} {now e : Int} (h : (s.done1 r now e).opn = false) : s.opn = false ∧ (outB r e = true → s.state ≠ 1) := by
  unfold SB.done1 at h
  split at h
  · next ho => simp at h; exact ⟨h.1, fun _ => h.2⟩
  · next ho =>
    refine ⟨?_, fun x => absurd x ho⟩
    split at h
    · split at h
      · exact h
      · exact h
    · split at h
      · exact h
      · exact h

theorem CRel.done1 {r : Rules} {c : CB} {s : SB} {now e : Int} (m : r.Mild) (h : CRel r c s) (h1 : s.cleared ≤ 999995) (n0 : -3000000000000000000 ≤ now) (n1 : now ≤ 3000000000000000000) (h2 : s.state ≠ 2) (ho : (s.done1 r now e).opn = false) :
    CRel r (if outB r e then c.put Cnt.excl 0 else if goodB r e then c.onSucc 0 now else c.onFail r 0 now) (s.done1 r now e) ∧
    (s.done1 r now e).chs = s.chs ++ (if outB r e then [] else if goodB r e then c.onSuccTold 0 else c.onFailTold r 0) ∧
    s.cleared ≤ (s.done1 r now e).cleared ∧ (s.done1 r now e).cleared ≤ s.cleared + 1 ∧ ((s.done1 r now e).state = 2 → s.cleared < (s.done1 r now e).cleared) := by
  obtain ⟨o1, o2⟩ := done1_opn ho
  have hs3 : s.state = 0 ∨ s.state = 1 := by
    rcases h.three with x | x | x
    · exact .inl x
    · exact .inr x
    · exact absurd x h2
  unfold SB.done1
  cases hout : outB r e with
  | true =>
    have hs1 := o2 hout
    have hx : (s.state == 1) = false := by simpa using hs1
    rw [if_pos rfl, if_pos rfl, if_pos rfl]
    have e1 : ({ s with cnt := s.cnt.excl, opn := s.opn || (s.state == 1) } : SB) = { s with cnt := s.cnt.excl } := by rw [o1, hx]; simp
    rw [e1]
    exact ⟨h.put Cnt.excl (fun _ => rfl) (fun x => absurd x hs1), by simp, by dsimp only; omega, by dsimp only; omega, fun x => absurd x h2⟩
  | false =>
    simp only [Bool.false_eq_true, if_false]
    cases hg : goodB r e with
    | true =>
      simp only [if_true]
      obtain ⟨p1, p2, p3⟩ := put_tot h.len h.age Cnt.succ
      unfold CB.onSucc CB.onSuccTold
      rw [h.st, h.most, most_same m, p1, h.cnt]
      rcases hs3 with hs | hs
      · rw [if_pos hs, if_neg (c := s.state = 1 ∧ mostS r ≤ s.cnt.succ.g) (by omega), if_neg (c := s.state = 1 ∧ mostS r ≤ s.cnt.succ.g) (by omega)]
        exact ⟨h.put Cnt.succ (fun _ => rfl) (fun _ _ => rfl), by simp, by dsimp only; omega, by dsimp only; omega, fun x => absurd x h2⟩
      · rw [if_neg (c := s.state = 0) (by omega), if_pos hs]
        by_cases hm : mostS r ≤ s.cnt.succ.g
        · rw [if_pos hm, if_pos (c := s.state = 1 ∧ mostS r ≤ s.cnt.succ.g) ⟨hs, hm⟩, if_pos (c := s.state = 1 ∧ mostS r ≤ s.cnt.succ.g) ⟨hs, hm⟩]
          refine ⟨CRel.set (c := c.put Cnt.succ 0) (s := { s with cnt := s.cnt.succ }) m p2 h.most h.int h.tim h.gen h.cl0 (by dsimp only; omega) (.inl rfl) o1 n0 n1, ?_, ?_, ?_, ?_⟩
          · rw [set_chs]; dsimp only; rw [hs]
          · have e := set_cleared r 0 now { s with cnt := s.cnt.succ } h.cl0 (by dsimp only; omega); rw [e]; dsimp only; omega
          · have e := set_cleared r 0 now { s with cnt := s.cnt.succ } h.cl0 (by dsimp only; omega); rw [e]; dsimp only; omega
          · intro x; rw [set_state] at x; omega
        · rw [if_neg hm, if_neg (c := s.state = 1 ∧ mostS r ≤ s.cnt.succ.g) (by omega), if_neg (c := s.state = 1 ∧ mostS r ≤ s.cnt.succ.g) (by omega)]
          exact ⟨h.put Cnt.succ (fun _ => rfl) (fun _ _ => rfl), by simp, by dsimp only; omega, by dsimp only; omega, fun x => absurd x h2⟩
    | false =>
      simp only [Bool.false_eq_true, if_false]
      obtain ⟨p1, p2, p3⟩ := put_tot h.len h.age Cnt.fail
      unfold CB.onFail CB.onFailTold
      rw [h.st, p1, h.cnt]
      rcases hs3 with hs | hs
      · rw [if_pos hs, if_pos hs]
        by_cases ht : tripB r s.cnt.fail = true
        · rw [if_pos ht, if_pos ht, if_pos (c := s.state = 1 ∨ s.state = 0 ∧ tripB r s.cnt.fail = true) (.inr ⟨hs, ht⟩)]
          refine ⟨CRel.set (c := c.put Cnt.fail 0) (s := { s with cnt := s.cnt.fail }) m p2 h.most h.int h.tim h.gen h.cl0 (by dsimp only; omega) (.inr (.inr rfl)) o1 n0 n1, ?_, ?_, ?_, ?_⟩
          · rw [set_chs]; dsimp only; rw [hs]
          · have e := set_cleared r 2 now { s with cnt := s.cnt.fail } h.cl0 (by dsimp only; omega); rw [e]; dsimp only; omega
          · have e := set_cleared r 2 now { s with cnt := s.cnt.fail } h.cl0 (by dsimp only; omega); rw [e]; dsimp only; omega
          · intro x; have e := set_cleared r 2 now { s with cnt := s.cnt.fail } h.cl0 (by dsimp only; omega); rw [e]; dsimp only; omega
        · rw [if_neg ht, if_neg ht, if_neg (c := s.state = 1 ∨ s.state = 0 ∧ tripB r s.cnt.fail = true) (fun x => x.elim (fun y => by omega) (fun y => ht y.2))]
          exact ⟨h.put Cnt.fail (fun _ => rfl) (fun _ _ => rfl), by simp, by dsimp only; omega, by dsimp only; omega, fun x => absurd x h2⟩
      · rw [if_neg (c := s.state = 0) (by omega), if_neg (c := s.state = 0) (by omega), if_pos hs, if_pos hs, if_pos (c := s.state = 1 ∨ s.state = 0 ∧ tripB r s.cnt.fail = true) (.inl hs)]
        refine ⟨CRel.set (c := c) (s := { s with cnt := s.cnt.fail }) m h.len h.most h.int h.tim h.gen h.cl0 (by dsimp only; omega) (.inr (.inr rfl)) o1 n0 n1, ?_, ?_, ?_, ?_⟩
        · rw [set_chs]; dsimp only; rw [hs]
        · have e := set_cleared r 2 now { s with cnt := s.cnt.fail } h.cl0 (by dsimp only; omega); rw [e]; dsimp only; omega
        · have e := set_cleared r 2 now { s with cnt := s.cnt.fail } h.cl0 (by dsimp only; omega); rw [e]; dsimp only; omega
        · intro x; have e := set_cleared r 2 now { s with cnt := s.cnt.fail } h.cl0 (by dsimp only; omega); rw [e]; dsimp only; omega

theorem CRel.done {r : Rules} {c : CB} {s : SB} {now e g : Int} (m : r.Mild) (h : CRel r c s) (h1 : s.cleared ≤ 999990) (n0 : -3000000000000000000 ≤ now) (n1 : now ≤ 3000000000000000000) (hg : g ≤ s.cleared) (hg2 : s.state = 2 → g < s.cleared) (ho : (s.done r now g e).opn = false) :
    CRel r (c.after r (1 + g) 0 e now) (s.done r now g e) ∧ (s.done r now g e).chs = s.chs ++ c.afterTold r (1 + g) 0 e now ∧ s.cleared ≤ (s.done r now g e).cleared ∧ (s.done r now g e).cleared ≤ s.cleared + 2 ∧ ((s.done r now g e).state = 2 → s.cleared < (s.done r now g e).cleared ∨ (s.state = 2 ∧ (s.done r now g e).cleared = s.cleared)) := by
  have hol : (s.look r now).opn = false := by
    unfold SB.done at ho
    split at ho
    · exact ho
    · exact (done1_opn ho).1
  obtain ⟨l1, l2, l3, l4, l5⟩ := h.look m h1 n0 n1 hol
  have hgen := l1.gen
  unfold SB.done CB.after CB.afterTold at *
  by_cases hc : (s.look r now).cleared = g
  · rw [if_neg (by simp [hc])] at ho
    rw [if_neg (c := (s.look r now).cleared ≠ g) (by simp [hc]), if_neg (c := (c.look now).gen ≠ 1 + g) (by omega), if_neg (c := (c.look now).gen ≠ 1 + g) (by omega)]
    have h2 : (s.look r now).state ≠ 2 := by
      intro x
      obtain ⟨y, z⟩ := l5 x
      have := hg2 y
      omega
    obtain ⟨d1, d2, d3, d4, d5⟩ := l1.done1 (e := e) m (by omega) n0 n1 h2 ho
    exact ⟨d1, by rw [d2, l2, List.append_assoc], by omega, by omega, fun x => .inl (by have := d5 x; omega)⟩
  · rw [if_pos (c := (s.look r now).cleared ≠ g) hc, if_pos (c := (c.look now).gen ≠ 1 + g) (by omega), if_pos (c := (c.look now).gen ≠ 1 + g) (by omega)]
    exact ⟨l1, by rw [l2]; simp, l3, by omega, fun x => .inr (l5 x)⟩

/-- The whole of both. -/
structure PRel (r : Rules) (n : Nat) (p : Play) (q : SPlay) : Prop where
  c : CRel r p.c q.s
  now : p.now = q.now
  chs : p.chs = q.s.chs
  dn : p.dones = q.went.map (fun g => (1 + g, 0))
  dl : q.done.length = q.went.length
  wle : ∀ g ∈ q.went, g ≤ q.s.cleared ∧ (q.s.state = 2 → g < q.s.cleared)
  out : p.out = q.out
  few : q.s.cleared ≤ 2 * n
  now0 : -1000000000000000 ≤ q.now
  now1 : q.now ≤ 1000000000000000 + 1000000000000000 * n

theorem PRel.start {r : Rules} (m : r.Mild) {now : Int} (n0 : -1000000000000000 ≤ now) (n1 : now ≤ 1000000000000000) : PRel r 0 (Play.start r now) (SPlay.start r now) ∧ (Play.start r now).c.gen = 1 := by
  have h := CRel.clear (c := { freshCB r with gen := 1 }) (s := SB.zero) (now := now) m rfl rfl rfl rfl rfl (show (1 : Int) = 1 + 0 by decide) (by decide) (by decide) (.inl rfl) rfl (by omega) (by omega)
  have hg : (Play.start r now).c.gen = 1 := show w64u (0 + 1) = 1 by decide
  have hc : CRel r (Play.start r now).c (SPlay.start r now).s := ⟨h.st, h.cnt, h.len, h.age, h.most, h.int, h.tim, hg, by show (0 : Int) ≤ 0; omega, h.exp, h.fin, h.tim1, h.tim2, h.three, h.x0, h.r0, h.r1, h.opn⟩
  exact ⟨⟨hc, rfl, rfl, rfl, rfl, by intro g hg; simp [SPlay.start] at hg, rfl, by show (0 : Int) ≤ _; omega, n0, by simpa [SPlay.start] using n1⟩, hg⟩

theorem actOk_parts {a : Act} (h : actOk a = true) : (a.kind = 0 ∨ a.kind = 1 ∨ a.kind = 2) ∧ 0 ≤ a.wait ∧ a.wait ≤ 1000000000000000 ∧ 0 ≤ a.err ∧ a.err ≤ 6 := by
  unfold actOk isWait isError at h
  simp at h
  obtain ⟨h1, h2, ⟨h3, h4⟩, h5, h6⟩ := h
  exact ⟨by omega, h3, h4, h5, by omega⟩

theorem sw_opn {r : Rules} {q : SPlay} {a : Act} (h : (q.sw r a).s.opn = false) : q.s.opn = false := by
  unfold SPlay.sw at h
  split at h
  · exact look_opn0 h
  · split at h
    · have h' : ((q.s.look r (q.now + a.wait)).allow1 r).opn = false := h
      unfold SB.allow1 at h'
      split at h'
      · exact look_opn0 h'
      · exact look_opn0 h'
    · have h' : (q.s.done r (q.now + a.wait) (q.went.getD a.call.toNat 0) a.err).opn = false := h
      unfold SB.done at h'
      split at h'
      · exact look_opn0 h'
      · exact look_opn0 (done1_opn h').1
theorem run_opn {r : Rules} {l : List Act} {q q' : SPlay} (h : SPlay.run r q l = some q') (ho : q'.s.opn = false) : q.s.opn = false := by
  induction l generalizing q with
  | nil => simp [SPlay.run] at h; subst h; exact ho
  | cons a l ih =>
    unfold SPlay.run at h
    split at h
    · cases h
    · have x : (q.act r a).s.opn = false := ih h
      exact sw_opn (r := r) (a := a) x

theorem PRel.act {r : Rules} {n : Nat} {p : Play} {q : SPlay} {a : Act} (m : r.Mild) (h : PRel r n p q) (hn : n ≤ 2000) (ha : actOk a = true) (hb : q.bad a = false) (ho : (q.sw r a).s.opn = false) : p.Can a ∧ PRel r (n + 1) (p.act r 1 a) (q.act r a) := by
  obtain ⟨hk, w0, w1, e0, e1⟩ := actOk_parts ha
  have hf := h.few
  have hnow := h.now
  have b0 := h.now0
  have b1 := h.now1
  have hc : a.kind = 2 → (0 ≤ a.call ∧ a.call < q.went.length) ∧ q.done.getD a.call.toNat false = false := by
    intro hk2
    unfold SPlay.bad at hb
    simp [hk2] at hb
    obtain ⟨x, y, z⟩ := hb
    exact ⟨⟨by omega, by omega⟩, by simpa using z⟩
  have hdl : p.dones.length = q.went.length := by rw [h.dn]; simp
  refine ⟨⟨hk, w0, by omega, by omega, fun x => ⟨(hc x).1.1, by rw [hdl]; exact (hc x).1.2⟩, e0, e1⟩, ?_⟩
  rcases hk with hk | hk | hk
  · have s1 : p.sw r a = { p with now := p.now + a.wait, c := p.c.look (p.now + a.wait), chs := p.chs ++ p.c.lookTold (p.now + a.wait) } := by unfold Play.sw; rw [if_pos hk]
    have s2 : q.sw r a = { q with now := q.now + a.wait, s := q.s.look r (q.now + a.wait) } := by unfold SPlay.sw; rw [if_pos hk]
    rw [s2] at ho
    obtain ⟨l1, l2, l3, l4, l5⟩ := h.c.look m (by omega) (now := q.now + a.wait) (by omega) (by omega) ho
    unfold Play.act SPlay.act Play.code Play.state SPlay.code SPlay.state
    have k1 : ¬ a.kind = 1 := by omega
    rw [s1, s2]
    simp only [if_neg k1, if_pos hk]
    rw [← hnow] at l1 l2 l3 l4 l5 ⊢
    refine ⟨l1, rfl, by dsimp only; rw [l2, h.chs], h.dn, h.dl, ?_, ?_, ?_, ?_, ?_⟩
    · intro g hg
      obtain ⟨x, y⟩ := h.wle g hg
      exact ⟨by dsimp only; omega, fun z => by obtain ⟨z1, z2⟩ := l5 z; have := y z1; dsimp only; omega⟩
    · dsimp only
      rw [l1.st, l1.cnt, l1.gen, show 1 + (q.s.look r (p.now + a.wait)).cleared - 1 = (q.s.look r (p.now + a.wait)).cleared by omega, w64u_small l1.cl0 (by omega), h.out]
    · dsimp only; omega
    · dsimp only; omega
    · dsimp only; omega
  · have s1 : p.sw r a = { p with now := p.now + a.wait, c := (p.c.look (p.now + a.wait)).before1, chs := p.chs ++ p.c.lookTold (p.now + a.wait), dones := if (p.c.look (p.now + a.wait)).beforeCode = 0 then p.dones ++ [((p.c.look (p.now + a.wait)).gen, (p.c.look (p.now + a.wait)).rc.age)] else p.dones } := by unfold Play.sw; rw [if_neg (by omega), if_pos hk]
    have s2 : q.sw r a = { q with now := q.now + a.wait, s := (q.s.look r (q.now + a.wait)).allow1 r, went := if (q.s.look r (q.now + a.wait)).allowCode r = 0 then q.went ++ [(q.s.look r (q.now + a.wait)).cleared] else q.went, done := if (q.s.look r (q.now + a.wait)).allowCode r = 0 then q.done ++ [false] else q.done } := by unfold SPlay.sw; rw [if_neg (by omega), if_pos hk]
    have ho1 : (q.s.look r (q.now + a.wait)).opn = false := by
      rw [s2] at ho
      have h' : ((q.s.look r (q.now + a.wait)).allow1 r).opn = false := ho
      unfold SB.allow1 at h'
      split at h'
      · exact h'
      · exact h'
    obtain ⟨l1, l2, l3, l4, l5⟩ := h.c.look m (by omega) (now := q.now + a.wait) (by omega) (by omega) ho1
    obtain ⟨m1, m2⟩ := l1.allow m
    have f1 : ((q.s.look r (q.now + a.wait)).allow1 r).chs = (q.s.look r (q.now + a.wait)).chs := by unfold SB.allow1; split <;> rfl
    have f2 : ((q.s.look r (q.now + a.wait)).allow1 r).cleared = (q.s.look r (q.now + a.wait)).cleared := by unfold SB.allow1; split <;> rfl
    have f3 : ((q.s.look r (q.now + a.wait)).allow1 r).state = (q.s.look r (q.now + a.wait)).state := by unfold SB.allow1; split <;> rfl
    unfold Play.act SPlay.act Play.code Play.state SPlay.code SPlay.state
    have k0 : ¬ a.kind = 0 := by omega
    rw [s1, s2]
    simp only [if_neg k0, if_pos hk]
    rw [← hnow] at l1 l2 l3 l4 l5 m1 m2 f1 f2 f3 ⊢
    refine ⟨m1, rfl, by dsimp only; rw [f1, l2, h.chs], ?_, ?_, ?_, ?_, ?_, ?_, ?_⟩
    · dsimp only
      by_cases hcode : (q.s.look r (p.now + a.wait)).allowCode r = 0
      · rw [m2, if_pos hcode, if_pos hcode, List.map_append, ← h.dn, l1.gen, l1.age]; rfl
      · rw [m2, if_neg hcode, if_neg hcode]; exact h.dn
    · dsimp only
      split
      · simp [h.dl]
      · exact h.dl
    · dsimp only
      intro g hg
      rw [f2, f3]
      have old : g ∈ q.went → g ≤ (q.s.look r (p.now + a.wait)).cleared ∧ ((q.s.look r (p.now + a.wait)).state = 2 → g < (q.s.look r (p.now + a.wait)).cleared) := by
        intro hg'
        obtain ⟨x, y⟩ := h.wle g hg'
        exact ⟨by omega, fun z => by obtain ⟨z1, z2⟩ := l5 z; have := y z1; omega⟩
      split at hg
      · next hcode =>
        rw [List.mem_append] at hg
        rcases hg with hg | hg
        · exact old hg
        · simp at hg
          refine ⟨by omega, fun z => ?_⟩
          unfold SB.allowCode at hcode
          rw [if_pos z] at hcode
          omega
      · exact old hg
    · dsimp only
      rw [m2, m1.cnt, m1.gen, show 1 + ((q.s.look r (p.now + a.wait)).allow1 r).cleared - 1 = ((q.s.look r (p.now + a.wait)).allow1 r).cleared by omega, w64u_small m1.cl0 (by omega), h.out]
    · dsimp only; omega
    · dsimp only; omega
    · dsimp only; omega
  · obtain ⟨⟨c0, c1⟩, c2⟩ := hc hk
    obtain ⟨k, hkk⟩ : ∃ k : Nat, a.call = (k : Int) := ⟨a.call.toNat, by omega⟩
    have hkl : k < q.went.length := by omega
    have hgd : q.went.getD a.call.toNat 0 = q.went[k] := by rw [hkk]; simp [List.getD, hkl]
    have hpd : p.dones.getD a.call.toNat (0, 0) = (1 + q.went[k], 0) := by rw [hkk, h.dn]; simp [List.getD, hkl]
    have s1 : p.sw r a = { p with now := p.now + a.wait, c := p.c.after r (1 + q.went[k]) 0 a.err (p.now + a.wait), chs := p.chs ++ p.c.afterTold r (1 + q.went[k]) 0 a.err (p.now + a.wait) } := by unfold Play.sw; rw [if_neg (by omega), if_neg (by omega), hpd]
    have s2 : q.sw r a = { q with now := q.now + a.wait, s := q.s.done r (q.now + a.wait) q.went[k] a.err, done := q.done.set a.call.toNat true } := by unfold SPlay.sw; rw [if_neg (by omega), if_neg (by omega), hgd]
    rw [s2] at ho
    obtain ⟨x0, y0⟩ := h.wle q.went[k] (List.getElem_mem hkl)
    obtain ⟨l1, l2, l3, l4, l5⟩ := h.c.done (e := a.err) m (by omega) (now := q.now + a.wait) (by omega) (by omega) x0 y0 ho
    unfold Play.act SPlay.act Play.code Play.state SPlay.code SPlay.state
    have k0 : ¬ a.kind = 0 := by omega
    have k1 : ¬ a.kind = 1 := by omega
    rw [s1, s2]
    simp only [if_neg k0, if_neg k1]
    rw [← hnow] at l1 l2 l3 l4 l5 ⊢
    refine ⟨l1, rfl, by dsimp only; rw [l2, h.chs], h.dn, by dsimp only; simpa using h.dl, ?_, ?_, ?_, ?_, ?_⟩
    · intro g hg
      obtain ⟨x, y⟩ := h.wle g hg
      refine ⟨by dsimp only; omega, fun z => ?_⟩
      rcases l5 z with z | ⟨z1, z2⟩
      · dsimp only; omega
      · have := y z1; dsimp only; omega
    · dsimp only
      rw [l1.cnt, l1.gen, show 1 + (q.s.done r (p.now + a.wait) q.went[k] a.err).cleared - 1 = (q.s.done r (p.now + a.wait) q.went[k] a.err).cleared by omega, w64u_small l1.cl0 (by omega), h.out]
    · dsimp only; omega
    · dsimp only; omega
    · dsimp only; omega

theorem PRel.run {r : Rules} (m : r.Mild) (l : List Act) {n : Nat} {p : Play} {q q' : SPlay} (h : PRel r n p q) (hn : n + l.length ≤ 2001) (ha : l.all actOk = true) (hr : SPlay.run r q l = some q') (ho : q'.s.opn = false) : Play.Fine r 1 p l ∧ PRel r (n + l.length) (Play.run r 1 p l) q' := by
  induction l generalizing n p q with
  | nil => simp [SPlay.run] at hr; subst hr; exact ⟨trivial, h⟩
  | cons a l ih =>
    simp at ha hn
    unfold SPlay.run at hr
    cases hb : q.bad a with
    | true => rw [if_pos hb] at hr; cases hr
    | false =>
      rw [if_neg (by simp [hb])] at hr
      obtain ⟨x, y⟩ := h.act m (by omega) ha.1 hb (show (q.act r a).s.opn = false from run_opn hr ho)
      obtain ⟨z1, z2⟩ := ih y (by omega) (by simpa using ha.2) hr
      exact ⟨⟨x, z1⟩, by rw [List.length_cons, show n + (l.length + 1) = n + 1 + l.length by omega]; exact z2⟩

/-- What follows of rules and acts within the bounds. -/
structure Law (r : Rules) (start : Int) (l : List Act) (q : SPlay) : Prop where
  run : SPlay.run r (SPlay.start r start) l = some q
  gen : (Play.start r start).c.gen = 1
  fine : Play.Fine r 1 (Play.start r start) l
  rel : PRel r l.length (Play.run r 1 (Play.start r start) l) q

theorem areRules_parts {r : Rules} (h : areRules r = true) : 0 ≤ r.trip ∧ r.trip ≤ 5 ∧ r.bucket ≤ 0 ∧ isTime r.interval = true ∧ isTime r.timeout = true := by
  unfold areRules at h
  simp at h
  exact ⟨h.1, h.2.1, h.2.2.2.1, h.2.2.2.2.1, h.2.2.2.2.2.1⟩
theorem isTime_parts {t : Int} (h : isTime t = true) : -1000000000000000 ≤ t ∧ t ≤ 1000000000000000 := by
  unfold isTime at h; simpa using h
theorem mild_of {r : Rules} (h : areRules r = true) (m0 : 0 ≤ r.most) (m1 : r.most < 4294967296) : r.Mild := by
  obtain ⟨_, _, _, hi, ht⟩ := areRules_parts h
  obtain ⟨a, b⟩ := isTime_parts hi
  obtain ⟨c, d⟩ := isTime_parts ht
  exact ⟨by omega, by omega, by omega, by omega, m0, m1⟩
theorem areActs_parts {r : Rules} {start : Int} {l : List Act} (h : areActs r start l = true) : areRules r = true ∧ isTime start = true ∧ l.length ≤ 2000 ∧ l.all actOk = true ∧ ∃ q, SPlay.run r (SPlay.start r start) l = some q ∧ q.s.opn = false := by
  unfold areActs at h
  simp only [Bool.and_eq_true, decide_eq_true_eq] at h
  obtain ⟨h1, h2, h3, h4, h5⟩ := h
  refine ⟨h1, h2, h3, h4, ?_⟩
  unfold twoOk at h5
  split at h5
  · cases h5
  · next q hq => exact ⟨q, hq, by simpa using h5⟩
theorem law {r : Rules} {start : Int} {l : List Act} (h : areActs r start l = true) (m0 : 0 ≤ r.most) (m1 : r.most < 4294967296) : ∃ q, Law r start l q := by
  obtain ⟨h1, h2, h3, h4, q, hq, ho⟩ := areActs_parts h
  have m := mild_of h1 m0 m1
  obtain ⟨a, b⟩ := isTime_parts h2
  obtain ⟨s1, s2⟩ := PRel.start m a b
  obtain ⟨x, y⟩ := PRel.run m l s1 (by omega) h4 hq ho
  exact ⟨q, hq, s2, x, by rw [Nat.zero_add] at y; exact y⟩

end Go.Proofs.Ytcjklacfoldaoaa
