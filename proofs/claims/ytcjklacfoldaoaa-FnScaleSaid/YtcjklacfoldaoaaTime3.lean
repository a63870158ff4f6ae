/- Contracts of Add, Sub of package time, over nanoseconds from 1970 on. Conditions: the numbers lie in the ranges that each theorem names. -/
import Derived.Test.YtcjklacfoldaoaaTime2
import Derived.Deep.RegionHeld3
import Derived.Deep.DrawnRows
namespace Go.Proofs.Ytcjklacfoldaoaa
open Go.RowKit
attribute [local go_sem ↓] Go.wp_at_zero Go.wp_at_succ

theorem bits_clear (n : Int) (h0 : 0 ≤ n) (h1 : n < 1000000000) : bits BinOp.andNot IntKind.u64 n 1073741823 = 0 := by
  rw [u64_andNot n 1073741823 h0 (by omega) (by omega) (by omega)]
  have e : (18446744073709551615 - (1073741823 : Int).toNat) = 18446744072635809792 := rfl
  rw [e]
  have h : n.toNat &&& 18446744072635809792 = 0 := by
    apply Nat.eq_of_testBit_eq
    intro i
    rw [Nat.testBit_and, Nat.zero_testBit]
    by_cases hi : i < 30
    · have : Nat.testBit 18446744072635809792 i = false := by
        have e2 : (18446744072635809792 : Nat) = 17179869183 * 2 ^ 30 := rfl
        rw [e2, Nat.testBit_mul_two_pow]; simp; omega
      rw [this]; simp
    · have : Nat.testBit n.toNat i = false := by
        apply Nat.testBit_lt_two_pow
        have : 2 ^ 30 ≤ 2 ^ i := Nat.pow_le_pow_right (by omega) (by omega)
        omega
      rw [this]; simp
  rw [h]; rfl
theorem bits_or0 (n : Int) (h0 : 0 ≤ n) (h1 : n < 1000000000) : bits BinOp.or IntKind.u64 0 n = n := by
  rw [u64_or 0 n (by omega) (by omega) h0 (by omega)]
  simp; omega

set_option maxHeartbeats 1000000 in
theorem add_core (n s q r : Int) (w : World) (h0 : 0 ≤ n) (h1 : n < 1000000000) (h2 : -100000000000 ≤ s) (h3 : s ≤ 300000000000) (h4 : 0 ≤ q) (h5 : q ≤ 9000000000) (h6 : 0 ≤ r) (h7 : r < 1000000000)
    (hq : (1000000000 * q + r).tdiv 1000000000 = q) (hr : (1000000000 * q + r).tmod 1000000000 = r) :
    Calls Try.prog 89 #[.agg #[.int .u64 n, .int .i64 s, .pointer none], .int .i64 (1000000000 * q + r)] w fun e w' => (∃ n' s', e = .returned (.agg #[.int .u64 n', .int .i64 s', .pointer none]) ∧ 0 ≤ n' ∧ n' < 1000000000 ∧ n' + 1000000000 * s' = n + 1000000000 * s + (1000000000 * q + r)) ∧ Below w.heap.size w w' := by
  have b1 := bits_clear n h0 h1
  by_cases hc : n + r < 1000000000
  · have b2 := bits_or0 (n + r) (by omega) hc
    have b3 := bits_mono (n + r) (by omega) hc
    go_enter Try.func89, Try.ntmps89
    go_wp2_with fail
    refine (nsec_any _ _ n _ h0 h1 (by simp)).mono ?_
    rintro e w' ⟨rfl, rfl⟩
    go_wp2_with fail
    refine (addSec_any _ _ (n + r) s q _ (by omega) hc (by simp) (by simp) (by simp) (by omega) (by omega) (by omega) (by omega)).mono ?_
    rintro e w' ⟨rfl, rfl⟩
    go_wp2_with fail
    refine bodyPost_ret (v := .agg #[.int .u64 (n + r), .int .i64 (s + q), .pointer none]) (by simp [results, Try.results89, go_sem]) rfl ⟨⟨_, _, rfl, by omega, by omega, by omega⟩, ?_⟩
    exact (((Below.refl _ _).alloc (Nat.le_refl _) _).alloc (by simp) _)
  · have b2 := bits_or0 (n + r - 1000000000) (by omega) (by omega)
    have b3 := bits_mono (n + r - 1000000000) (by omega) (by omega)
    go_enter Try.func89, Try.ntmps89
    go_wp2_with fail
    refine (nsec_any _ _ n _ h0 h1 (by simp)).mono ?_
    rintro e w' ⟨rfl, rfl⟩
    go_wp2_with fail
    refine (addSec_any _ _ (n + r - 1000000000) s (q + 1) _ (by omega) (by omega) (by simp) (by simp) (by simp) (by omega) (by omega) (by omega) (by omega)).mono ?_
    rintro e w' ⟨rfl, rfl⟩
    go_wp2_with fail
    refine bodyPost_ret (v := .agg #[.int .u64 (n + r - 1000000000), .int .i64 (s + (q + 1)), .pointer none]) (by simp [results, Try.results89, go_sem]) rfl ⟨⟨_, _, rfl, by omega, by omega, by omega⟩, ?_⟩
    exact (((Below.refl _ _).alloc (Nat.le_refl _) _).alloc (by simp) _)

theorem ns_sec {t n s : Int} (h0 : 0 ≤ n) (h1 : n < 1000000000) (h : n + 1000000000 * s = t + 62135596800000000000) : n = NS t ∧ s = SEC t := by unfold NS SEC; omega
theorem ns_sec' (t : Int) : NS t + 1000000000 * SEC t = t + 62135596800000000000 := by unfold NS SEC; omega

theorem add_any (t d : Int) (w : World) (h0 : -4000000000000000000 ≤ t) (h1 : t ≤ 4000000000000000000) (h2 : 0 ≤ d) (h3 : d ≤ 8000000000000000000) :
    Calls Try.prog 89 #[.agg #[.int .u64 (NS t), .int .i64 (SEC t), .pointer none], .int .i64 d] w fun e w' => e = .returned (.agg #[.int .u64 (NS (t + d)), .int .i64 (SEC (t + d)), .pointer none]) ∧ Below w.heap.size w w' := by
  obtain ⟨q, r, rfl, hq, hr, a, b, c, _⟩ := tdiv_parts d
  have e := ns_sec' t
  refine (add_core (NS t) (SEC t) q r w (NS_lo t) (NS_hi t) (by unfold SEC; omega) (by unfold SEC; omega) (by have := c h2; omega) (by have := c h2; omega) (c h2) b hq hr).mono ?_
  rintro e w' ⟨⟨n', s', rfl, k0, k1, k2⟩, hb⟩
  obtain ⟨rfl, rfl⟩ := ns_sec (t := t + (1000000000 * q + r)) (s := s') k0 k1 (by omega)
  exact ⟨rfl, hb⟩

theorem before_t (a b : Int) (w : World) :
    Calls Try.prog 93 #[.agg #[.int .u64 (NS a), .int .i64 (SEC a), .pointer none], .agg #[.int .u64 (NS b), .int .i64 (SEC b), .pointer none]] w fun e w' => e = .returned (.bool (decide (a < b))) ∧ Below w.heap.size w w' := by
  refine (before_any (NS a) (SEC a) (NS b) (SEC b) w (NS_lo a) (NS_hi a) (NS_lo b) (NS_hi b)).mono ?_
  rintro e w' ⟨rfl, hb⟩
  exact ⟨by rw [decide_eq_decide.2 (lex_lt a b)], hb⟩

/-- The zero time. -/
def T0 : Int := -62135596800000000000
theorem NS_T0 : NS T0 = 0 := by decide
theorem SEC_T0 : SEC T0 = 0 := by decide
theorem isZero_t (a : Int) (w : World) :
    Calls Try.prog 92 #[.agg #[.int .u64 (NS a), .int .i64 (SEC a), .pointer none]] w fun e w' => e = .returned (.bool (decide (a = T0))) ∧ Below w.heap.size w w' := by
  refine (isZero_any (NS a) (SEC a) w).mono ?_
  rintro e w' ⟨rfl, hb⟩
  refine ⟨?_, hb⟩
  have : (NS a == 0 && SEC a == 0) = decide (a = T0) := by
    rw [Bool.eq_iff_iff, Bool.and_eq_true, beq_iff_eq, beq_iff_eq, decide_eq_true_iff]
    unfold NS SEC T0
    omega
  rw [this]

theorem add_back (a b : Int) (w : World) (h0 : -4000000000000000000 ≤ a) (h1 : a ≤ 4000000000000000000) (h2 : -4000000000000000000 ≤ b) (h3 : b ≤ a) :
    Calls Try.prog 89 #[.agg #[.int .u64 (NS b), .int .i64 (SEC b), .pointer none], .int .i64 (a - b)] w fun e w' => e = .returned (.agg #[.int .u64 (NS a), .int .i64 (SEC a), .pointer none]) ∧ Below w.heap.size w w' := by
  have h := add_any b (a - b) w h2 (by omega) (by omega) (by omega)
  rw [show b + (a - b) = a by omega] at h
  exact h
theorem equal_same (a : Int) (w : World) :
    Calls Try.prog 115 #[.agg #[.int .u64 (NS a), .int .i64 (SEC a), .pointer none], .agg #[.int .u64 (NS a), .int .i64 (SEC a), .pointer none]] w fun e w' => e = .returned (.bool true) ∧ Below w.heap.size w w' := by
  refine (equal_any (NS a) (SEC a) (NS a) (SEC a) w (NS_lo a) (NS_hi a) (NS_lo a) (NS_hi a)).mono ?_
  rintro e w' ⟨rfl, hb⟩
  exact ⟨by simp, hb⟩

theorem isZero_yes (a : Int) (w : World) (h : a = T0) :
    Calls Try.prog 92 #[.agg #[.int .u64 (NS a), .int .i64 (SEC a), .pointer none]] w fun e w' => e = .returned (.bool true) ∧ Below w.heap.size w w' :=
  (isZero_t a w).mono fun _ _ ⟨h1, h2⟩ => ⟨h1.trans (by simp [h]), h2⟩
theorem isZero_no (a : Int) (w : World) (h : a ≠ T0) :
    Calls Try.prog 92 #[.agg #[.int .u64 (NS a), .int .i64 (SEC a), .pointer none]] w fun e w' => e = .returned (.bool false) ∧ Below w.heap.size w w' :=
  (isZero_t a w).mono fun _ _ ⟨h1, h2⟩ => ⟨h1.trans (by simp [h]), h2⟩
theorem before_yes (a b : Int) (w : World) (h : a < b) :
    Calls Try.prog 93 #[.agg #[.int .u64 (NS a), .int .i64 (SEC a), .pointer none], .agg #[.int .u64 (NS b), .int .i64 (SEC b), .pointer none]] w fun e w' => e = .returned (.bool true) ∧ Below w.heap.size w w' :=
  (before_t a b w).mono fun _ _ ⟨h1, h2⟩ => ⟨h1.trans (by simp [h]), h2⟩
theorem before_no (a b : Int) (w : World) (h : ¬ a < b) :
    Calls Try.prog 93 #[.agg #[.int .u64 (NS a), .int .i64 (SEC a), .pointer none], .agg #[.int .u64 (NS b), .int .i64 (SEC b), .pointer none]] w fun e w' => e = .returned (.bool false) ∧ Below w.heap.size w w' :=
  (before_t a b w).mono fun _ _ ⟨h1, h2⟩ => ⟨h1.trans (by simp; omega), h2⟩

set_option maxHeartbeats 1000000 in
theorem sub_any (a b : Int) (w : World) (h0 : -4000000000000000000 ≤ a) (h1 : a ≤ 4000000000000000000) (h2 : -4000000000000000000 ≤ b) (h3 : b ≤ a) :
    Calls Try.prog 108 #[.agg #[.int .u64 (NS a), .int .i64 (SEC a), .pointer none], .agg #[.int .u64 (NS b), .int .i64 (SEC b), .pointer none]] w fun e w' => e = .returned (.int .i64 (a - b)) ∧ Below w.heap.size w w' := by
  have b1 := bits_both0 (NS a) (NS b) (NS_lo a) (NS_hi a) (NS_lo b) (NS_hi b)
  have e1 := ns_sec' a
  have e2 := ns_sec' b
  have n1 := NS_lo a
  have n2 := NS_hi a
  have n3 := NS_lo b
  have n4 := NS_hi b
  have s1 : -5000000000 + 62135596800 ≤ SEC a := by omega
  have s2 : SEC a ≤ 5000000000 + 62135596800 := by omega
  have s3 : -5000000000 + 62135596800 ≤ SEC b := by omega
  have s4 : SEC b ≤ 5000000000 + 62135596800 := by omega
  have i1 : -9000000000000000000 ≤ (SEC a - SEC b) * 1000000000 := by omega
  have i2 : (SEC a - SEC b) * 1000000000 ≤ 9000000000000000000 := by omega
  have i4 : -9000000000000000000 ≤ (SEC a - SEC b) * 1000000000 + (NS a - NS b) := by omega
  have i5 : (SEC a - SEC b) * 1000000000 + (NS a - NS b) ≤ 9000000000000000000 := by omega
  have i3 := Lib.hid (show (SEC a - SEC b) * 1000000000 + (NS a - NS b) = a - b by omega)
  clear e1 e2
  go_enter Try.func108, Try.ntmps108
  go_wp2_with fail
  refine (sec_any w.heap.size 0 (NS a) (SEC a) _ n1 n2 (by simp) (by simp)).mono ?_
  rintro e w' ⟨rfl, rfl⟩
  go_wp2_with fail
  refine (sec_any (w.heap.size + 1) 0 (NS b) (SEC b) _ n3 n4 (by simp) (by simp)).mono ?_
  rintro e w' ⟨rfl, rfl⟩
  go_wp2_with fail
  refine (nsec_any w.heap.size 0 (NS a) _ n1 n2 (by simp)).mono ?_
  rintro e w' ⟨rfl, rfl⟩
  go_wp2_with fail
  refine (nsec_any (w.heap.size + 1) 0 (NS b) _ n3 n4 (by simp)).mono ?_
  rintro e w' ⟨rfl, rfl⟩
  go_wp2_with fail
  rw [i3.out]
  go_region_held3 (fun w' => w'.cell? ⟨w.heap.size, 0, none⟩ = some (.int .u64 (NS a)) ∧ w'.cell? ⟨w.heap.size, 1, none⟩ = some (.int .i64 (SEC a)) ∧ w'.cell? ⟨w.heap.size, 2, none⟩ = some (.pointer none) ∧ w'.cell? ⟨w.heap.size + 1, 0, none⟩ = some (.int .u64 (NS b)) ∧ w'.cell? ⟨w.heap.size + 1, 1, none⟩ = some (.int .i64 (SEC b)) ∧ w'.cell? ⟨w.heap.size + 1, 2, none⟩ = some (.pointer none)) (first | go_keep | (simp [c0, c1]))
    ((first | (go_at_call 89; refine (add_back a b _ h0 h1 h2 h3).mono ?_; rintro e w1 ⟨rfl, hb1⟩; obtain ⟨c0, _, _, g0⟩ := kept hb1 (heap_drew (heap_alloc_lt (heap_alloc_new w _))); obtain ⟨c1, _, hz1, g1⟩ := kept hb1 (b := w.heap.size + 1) (heap_drew (heap_alloc_at (by simp)))) | (go_at_call 115; refine (equal_same a _).mono ?_; rintro e w2 ⟨rfl, hb2⟩; obtain ⟨c0, _, _, _⟩ := kept hb2 g0; obtain ⟨c1, _, hz2, _⟩ := kept hb2 g1)))
  go_wp2_with fail
  go_ret
  exact ⟨rfl, ((((Below.refl _ _).alloc (Nat.le_refl _) _).alloc (by simp) _).drew.trans (hb1.mono (by simp; omega))).trans (hb2.mono (by omega))⟩

end Go.Proofs.Ytcjklacfoldaoaa
