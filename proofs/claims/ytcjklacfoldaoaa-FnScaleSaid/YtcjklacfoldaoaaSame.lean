/- Contracts of SameChanges and SameAnswers: the same rows are the same. Condition: both rows hold the same. -/
import Derived.Test.YtcjklacfoldaoaaSpecL
import Derived.Deep.DeepCutAuto
import Derived.Deep.LoopGhost
namespace Go.Proofs.Ytcjklacfoldaoaa
open Go.RowKit
attribute [local go_sem ↓] Go.wp_at_zero Go.wp_at_succ

theorem chFlat_get {l : List (Int × Int)} {i : Nat} {x : Int × Int} (h : l[i]? = some x) : (chFlat l)[i * 2]? = some (.int .i64 x.1) ∧ (chFlat l)[i * 2 + 1]? = some (.int .i64 x.2) := by
  induction l generalizing i with
  | nil => simp at h
  | cons a l ih =>
    cases i with
    | zero => simp at h; subst h; simp [chFlat]
    | succ i =>
      obtain ⟨p, q⟩ := ih (i := i) (by simpa using h)
      have e : (i + 1) * 2 = [Value.int IntKind.i64 a.1, .int .i64 a.2].length + i * 2 := by simp; omega
      have e' : (i + 1) * 2 + 1 = [Value.int IntKind.i64 a.1, .int .i64 a.2].length + (i * 2 + 1) := by simp; omega
      simp only [chFlat, List.flatMap_cons]
      rw [e', e, List.getElem?_append_right (by omega), List.getElem?_append_right (by omega)]
      constructor
      · simpa [chFlat] using p
      · simpa [chFlat] using q
theorem ansFlat_get {l : List Ans} {i : Nat} {x : Ans} (h : l[i]? = some x) {j : Nat} (hj : j < 9) : (ansFlat l)[i * 9 + j]? = (ansRow x)[j]? := by
  induction l generalizing i with
  | nil => simp at h
  | cons a l ih =>
    cases i with
    | zero =>
      simp at h
      subst h
      simp only [ansFlat, List.flatMap_cons, Nat.zero_mul, Nat.zero_add]
      rw [List.getElem?_append_left (by simpa [ansRow] using hj)]
    | succ i =>
      have e : (i + 1) * 9 + j = (ansRow a).length + (i * 9 + j) := by simp [ansRow]; omega
      simp only [ansFlat, List.flatMap_cons]
      rw [e, List.getElem?_append_right (by omega)]
      have := ih (i := i) (by simpa using h)
      simpa [ansFlat] using this

theorem below_drewN {B : Nat} {w : World} (n : Nat) : Below B w (w.drewN n) := ⟨rfl, rfl, rfl, Nat.le_refl _, fun _ _ => rfl⟩
theorem row_part {w : World} {base : Nat} {e : TypeId} {size n : Nat} {p : Option Addr} {cap : Nat} {xs : List Value} (h : w.ownsRow base e size (.slice p n cap) n xs) (hn : n ≠ 0) : ∃ g, p = some ⟨g, 0, none⟩ ∧ ∀ (j : Nat) (u : Value), xs[j]? = some u → w.cell? ⟨g, j, none⟩ = some u := by
  obtain ⟨g, c, cs, he, _, _, _, hc⟩ := row_slice h hn
  cases he
  exact ⟨g, rfl, hc⟩

set_option maxRecDepth 100000 in
set_option maxHeartbeats 2000000 in
theorem sameChanges_any (va vb : Value) (l : List (Int × Int)) (w : World) (ba bb : Nat) (h1 : w.ownsRow ba 34 2 va l.length (chFlat l)) (h2 : w.ownsRow bb 34 2 vb l.length (chFlat l)) (hl : l.length ≤ 1000000) :
    Calls Try.prog 22 #[va, vb] w fun e w' => e = .returned (.bool true) ∧ Below w.heap.size w w' := by
  obtain ⟨pa, ca, rfl⟩ := row_len h1
  obtain ⟨pb, cb, rfl⟩ := row_len h2
  have H1 := Lib.hid h1
  have H2 := Lib.hid h2
  clear h1 h2
  go_enter Try.func22, Try.ntmps22
  go_wp2_with fail
  go_loopg [13] l.length (fun g s13 wx => ∃ i : Nat, g = l.length - i ∧ i ≤ l.length ∧ s13 = .int .i64 (i : Int) ∧ ∃ n, wx = w.drewN n)
  case atStart => exact ⟨0, rfl, Nat.zero_le _, rfl, 0, rfl⟩
  case round =>
    obtain ⟨i, rfl, hi, rfl, n, rfl⟩ := hrel
    by_cases hin : i < l.length
    · have hiz : (i : Int) < (l.length : Int) := by omega
      obtain ⟨x, hx⟩ : ∃ x, l[i]? = some x := ⟨_, List.getElem?_eq_getElem hin⟩
      obtain ⟨g1, rfl, c1⟩ := row_part H1.out (by omega)
      obtain ⟨g2, rfl, c2⟩ := row_part H2.out (by omega)
      obtain ⟨p, q⟩ := chFlat_get hx
      have a1 := c1 _ _ p
      have a2 := c1 _ _ q
      have a3 := c2 _ _ p
      have a4 := c2 _ _ q
      clear c1 c2 p q hx
      go_upto_region 6 with fail
      go_region
      go_wp2_with fail
      go_roundg (l.length - (i + 1))
      case measure => omega
      case rel => exact ⟨i + 1, rfl, hin, by first | rfl | simp, n + 1, rfl⟩
    · have hiz : ¬ ((i : Int) < (l.length : Int)) := by omega
      go_wp2_with fail
      go_ret
      exact ⟨rfl, below_drewN n⟩

set_option maxRecDepth 100000 in
set_option maxHeartbeats 2000000 in
theorem sameAnswers_any (va vb : Value) (l : List Ans) (w : World) (ba bb : Nat) (h1 : w.ownsRow ba 39 9 va l.length (ansFlat l)) (h2 : w.ownsRow bb 39 9 vb l.length (ansFlat l)) (hl : l.length ≤ 1000000) :
    Calls Try.prog 41 #[va, vb] w fun e w' => e = .returned (.bool true) ∧ Below w.heap.size w w' := by
  obtain ⟨pa, ca, rfl⟩ := row_len h1
  obtain ⟨pb, cb, rfl⟩ := row_len h2
  have H1 := Lib.hid h1
  have H2 := Lib.hid h2
  clear h1 h2
  go_enter Try.func41, Try.ntmps41
  go_wp2_with fail
  go_loopg [13] l.length (fun g s13 wx => ∃ i : Nat, g = l.length - i ∧ i ≤ l.length ∧ s13 = .int .i64 (i : Int) ∧ ∃ n, wx = w.drewN n)
  case atStart => exact ⟨0, rfl, Nat.zero_le _, rfl, 0, rfl⟩
  case round =>
    obtain ⟨i, rfl, hi, rfl, n, rfl⟩ := hrel
    by_cases hin : i < l.length
    · have hiz : (i : Int) < (l.length : Int) := by omega
      obtain ⟨x, hx⟩ : ∃ x, l[i]? = some x := ⟨_, List.getElem?_eq_getElem hin⟩
      obtain ⟨g1, rfl, c1⟩ := row_part H1.out (by omega)
      obtain ⟨g2, rfl, c2⟩ := row_part H2.out (by omega)
      have ac10 : w.cell? ⟨g1, i * 9, none⟩ = some (.int .i64 x.code) := c1 _ _ ((ansFlat_get hx (j := 0) (by omega)).trans rfl)
      have ac20 : w.cell? ⟨g2, i * 9, none⟩ = some (.int .i64 x.code) := c2 _ _ ((ansFlat_get hx (j := 0) (by omega)).trans rfl)
      have ac11 : w.cell? ⟨g1, i * 9 + 1, none⟩ = some (.int .i64 x.state) := c1 _ _ ((ansFlat_get hx (j := 1) (by omega)).trans rfl)
      have ac21 : w.cell? ⟨g2, i * 9 + 1, none⟩ = some (.int .i64 x.state) := c2 _ _ ((ansFlat_get hx (j := 1) (by omega)).trans rfl)
      have ac12 : w.cell? ⟨g1, i * 9 + 2, none⟩ = some (.int .u32 x.cnt.r) := c1 _ _ ((ansFlat_get hx (j := 2) (by omega)).trans rfl)
      have ac22 : w.cell? ⟨g2, i * 9 + 2, none⟩ = some (.int .u32 x.cnt.r) := c2 _ _ ((ansFlat_get hx (j := 2) (by omega)).trans rfl)
      have ac13 : w.cell? ⟨g1, i * 9 + 3, none⟩ = some (.int .u32 x.cnt.s) := c1 _ _ ((ansFlat_get hx (j := 3) (by omega)).trans rfl)
      have ac23 : w.cell? ⟨g2, i * 9 + 3, none⟩ = some (.int .u32 x.cnt.s) := c2 _ _ ((ansFlat_get hx (j := 3) (by omega)).trans rfl)
      have ac14 : w.cell? ⟨g1, i * 9 + 4, none⟩ = some (.int .u32 x.cnt.f) := c1 _ _ ((ansFlat_get hx (j := 4) (by omega)).trans rfl)
      have ac24 : w.cell? ⟨g2, i * 9 + 4, none⟩ = some (.int .u32 x.cnt.f) := c2 _ _ ((ansFlat_get hx (j := 4) (by omega)).trans rfl)
      have ac15 : w.cell? ⟨g1, i * 9 + 5, none⟩ = some (.int .u32 x.cnt.x) := c1 _ _ ((ansFlat_get hx (j := 5) (by omega)).trans rfl)
      have ac25 : w.cell? ⟨g2, i * 9 + 5, none⟩ = some (.int .u32 x.cnt.x) := c2 _ _ ((ansFlat_get hx (j := 5) (by omega)).trans rfl)
      have ac16 : w.cell? ⟨g1, i * 9 + 6, none⟩ = some (.int .u32 x.cnt.g) := c1 _ _ ((ansFlat_get hx (j := 6) (by omega)).trans rfl)
      have ac26 : w.cell? ⟨g2, i * 9 + 6, none⟩ = some (.int .u32 x.cnt.g) := c2 _ _ ((ansFlat_get hx (j := 6) (by omega)).trans rfl)
      have ac17 : w.cell? ⟨g1, i * 9 + 7, none⟩ = some (.int .u32 x.cnt.h) := c1 _ _ ((ansFlat_get hx (j := 7) (by omega)).trans rfl)
      have ac27 : w.cell? ⟨g2, i * 9 + 7, none⟩ = some (.int .u32 x.cnt.h) := c2 _ _ ((ansFlat_get hx (j := 7) (by omega)).trans rfl)
      have ac18 : w.cell? ⟨g1, i * 9 + 8, none⟩ = some (.int .u64 x.cleared) := c1 _ _ ((ansFlat_get hx (j := 8) (by omega)).trans rfl)
      have ac28 : w.cell? ⟨g2, i * 9 + 8, none⟩ = some (.int .u64 x.cleared) := c2 _ _ ((ansFlat_get hx (j := 8) (by omega)).trans rfl)
      clear c1 c2 hx
      go_upto_region 6 with fail
      go_region
      go_wp2_with fail
      go_roundg (l.length - (i + 1))
      case measure => omega
      case rel => exact ⟨i + 1, rfl, hin, by first | rfl | simp, n + 1, rfl⟩
    · have hiz : ¬ ((i : Int) < (l.length : Int)) := by omega
      go_wp2_with fail
      go_ret
      exact ⟨rfl, below_drewN n⟩

set_option maxRecDepth 100000 in
set_option maxHeartbeats 2000000 in
theorem brBoth_any (va vx vb vy : Value) (l : List Ans) (c : List (Int × Int)) (w : World) (b1 b2 b3 b4 : Nat) (h1 : w.ownsRow b1 39 9 va l.length (ansFlat l)) (h2 : w.ownsRow b2 34 2 vx c.length (chFlat c)) (h3 : w.ownsRow b3 39 9 vb l.length (ansFlat l)) (h4 : w.ownsRow b4 34 2 vy c.length (chFlat c)) (hl : l.length ≤ 1000000) (hc : c.length ≤ 1000000) :
    Calls Try.prog 20 #[va, vx, vb, vy] w fun e w' => e = .returned (.bool true) ∧ Below w.heap.size w w' := by
  have A := Lib.hid (sameAnswers_any va vb l w b1 b3 h1 h3 hl)
  have hb : ∀ w', Below w.heap.size w w' → Calls Try.prog 22 #[vx, vy] w' fun e w2 => e = .returned (.bool true) ∧ Below w'.heap.size w' w2 :=
    fun w' b => sameChanges_any vx vy c w' b2 b4 (owns_keep h2 fun g hg => b.block g (h2.lt g hg).2) (owns_keep h4 fun g hg => b.block g (h4.lt g hg).2) hc
  have B := Lib.hid hb
  clear h1 h2 h3 h4 hb
  go_enter Try.func20, Try.ntmps20
  go_wp2_with fail
  refine A.out.mono ?_
  rintro e w2 ⟨rfl, hb2⟩
  have B2 := Lib.hid hb2
  clear hb2
  go_wp2_with fail
  refine (B.out w2 B2.out).mono ?_
  rintro e w3 ⟨rfl, hb3⟩
  go_wp2_with fail
  go_ret
  exact ⟨rfl, B2.out.trans (hb3.mono B2.out.size)⟩

end Go.Proofs.Ytcjklacfoldaoaa
