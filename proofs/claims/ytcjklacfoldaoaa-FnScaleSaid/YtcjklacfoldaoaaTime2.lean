/- Contracts of Unix, Add, Sub of package time, over nanoseconds from 1970 on. Conditions: the numbers lie in the ranges that each theorem names. -/
import Derived.Test.YtcjklacfoldaoaaTime
namespace Go.Proofs.Ytcjklacfoldaoaa
open Go.RowKit

/-- The nanoseconds and the seconds that a time of t nanoseconds bears. -/
def NS (t : Int) : Int := t % 1000000000
def SEC (t : Int) : Int := t / 1000000000 + 62135596800
theorem NS_lo (t : Int) : 0 ≤ NS t := by unfold NS; omega
theorem NS_hi (t : Int) : NS t < 1000000000 := by unfold NS; omega
theorem SEC_lo {t : Int} (h : -100000000000000000000 ≤ t) : -40000000000 ≤ SEC t := by unfold SEC; omega
theorem SEC_hi {t : Int} (h : t ≤ 100000000000000000000) : SEC t ≤ 200000000000 := by unfold SEC; omega
theorem lex_lt (a b : Int) : (SEC a < SEC b ∨ SEC a = SEC b ∧ NS a < NS b) ↔ a < b := by unfold SEC NS; omega
theorem lex_eq (a b : Int) : (SEC a = SEC b ∧ NS a = NS b) ↔ a = b := by unfold SEC NS; omega
theorem tdiv_parts (t : Int) : ∃ q r, t = 1000000000 * q + r ∧ t.tdiv 1000000000 = q ∧ t.tmod 1000000000 = r ∧ -1000000000 < r ∧ r < 1000000000 ∧ (0 ≤ t → 0 ≤ r) ∧ (t ≤ 0 → r ≤ 0) := by
  have e0 := Int.mul_tdiv_add_tmod t 1000000000
  have e1 : 0 ≤ t → 0 ≤ t.tmod 1000000000 ∧ t.tmod 1000000000 < 1000000000 := fun h => ⟨Int.tmod_nonneg 1000000000 h, Int.tmod_lt_of_pos t (by omega)⟩
  have e2 : t ≤ 0 → t.tmod 1000000000 ≤ 0 ∧ -1000000000 < t.tmod 1000000000 := fun h => by
    have e : (-t).tmod 1000000000 = -(t.tmod 1000000000) := Int.neg_tmod t 1000000000
    have h1 := Int.tmod_nonneg 1000000000 (a := -t) (by omega)
    have h2 := Int.tmod_lt_of_pos (-t) (b := 1000000000) (by omega)
    omega
  refine ⟨t.tdiv 1000000000, t.tmod 1000000000, by omega, rfl, rfl, ?_, ?_, fun h => (e1 h).1, fun h => (e2 h).1⟩
  all_goals (rcases Int.le_total 0 t with h | h; have := e1 h; omega; have := e2 h; omega)

set_option maxHeartbeats 1000000 in
theorem unix_core (q r : Int) (w : World) (h0 : -4000000000000000000 ≤ 1000000000 * q + r) (h1 : 1000000000 * q + r ≤ 4000000000000000000) (hr0 : -1000000000 < r) (hr1 : r < 1000000000)
    (hq : (1000000000 * q + r).tdiv 1000000000 = q) (hs : (1000000000 * q + r < 0 ∧ r ≤ 0) ∨ (1000000000 ≤ 1000000000 * q + r ∧ 0 ≤ r) ∨ (0 ≤ 1000000000 * q + r ∧ 1000000000 * q + r < 1000000000 ∧ q = 0)) :
    Calls Try.prog 53 #[.int .i64 0, .int .i64 (1000000000 * q + r)] w fun e w' => (∃ n s, e = .returned (.agg #[.int .u64 n, .int .i64 s, .pointer none]) ∧ NS (1000000000 * q + r) = n ∧ SEC (1000000000 * q + r) = s) ∧ Below w.heap.size w w' := by
  rcases hs with ⟨ht, hr⟩ | ⟨ht, hr⟩ | ⟨ht, ht2, hq0⟩
  · by_cases hr' : r < 0
    · go_enter Try.func53, Try.ntmps53
      go_wp2_with fail
      refine (unixTime_any _ _ _ (by omega) (by omega) (by omega) (by omega)).mono ?_
      rintro e w' ⟨rfl, hb⟩
      have hz := hb.size
      obtain ⟨hc, hf⟩ := bcell hb
      simp at hz
      go_wp2_with fail
      refine bodyPost_ret (v := .agg #[.int .u64 (1000000000 * q + r - q * 1000000000 + 1000000000), .int .i64 (q - 1 + 62135596800), .pointer none]) (by simp [results, Try.results53, go_sem, hc]) rfl ⟨⟨_, _, rfl, by unfold NS; omega, by unfold SEC; omega⟩, ?_⟩
      exact (((((Below.refl _ _).alloc (Nat.le_refl _) _).trans (hb.mono (by simp))).setCell (Nat.le_refl _) _).setCell (Nat.le_refl _) _).setCell (Nat.le_refl _) _
    · obtain rfl : r = 0 := by omega
      go_enter Try.func53, Try.ntmps53
      go_wp2_with fail
      refine (unixTime_any _ _ _ (by omega) (by omega) (by omega) (by omega)).mono ?_
      rintro e w' ⟨rfl, hb⟩
      have hz := hb.size
      obtain ⟨hc, hf⟩ := bcell hb
      simp at hz
      go_wp2_with fail
      refine bodyPost_ret (v := .agg #[.int .u64 (1000000000 * q + 0 - q * 1000000000), .int .i64 (q + 62135596800), .pointer none]) (by simp [results, Try.results53, go_sem, hc]) rfl ⟨⟨_, _, rfl, by unfold NS; omega, by unfold SEC; omega⟩, ?_⟩
      exact (((((Below.refl _ _).alloc (Nat.le_refl _) _).trans (hb.mono (by simp))).setCell (Nat.le_refl _) _).setCell (Nat.le_refl _) _).setCell (Nat.le_refl _) _
  · go_enter Try.func53, Try.ntmps53
    go_wp2_with fail
    refine (unixTime_any _ _ _ (by omega) (by omega) (by omega) (by omega)).mono ?_
    rintro e w' ⟨rfl, hb⟩
    have hz := hb.size
    obtain ⟨hc, hf⟩ := bcell hb
    simp at hz
    go_wp2_with fail
    refine bodyPost_ret (v := .agg #[.int .u64 (1000000000 * q + r - q * 1000000000), .int .i64 (q + 62135596800), .pointer none]) (by simp [results, Try.results53, go_sem, hc]) rfl ⟨⟨_, _, rfl, by unfold NS; omega, by unfold SEC; omega⟩, ?_⟩
    exact (((((Below.refl _ _).alloc (Nat.le_refl _) _).trans (hb.mono (by simp))).setCell (Nat.le_refl _) _).setCell (Nat.le_refl _) _).setCell (Nat.le_refl _) _
  · subst hq0
    have e0 : 1000000000 * 0 + r = r := by omega
    simp only [e0] at *
    clear e0 hq
    go_enter Try.func53, Try.ntmps53
    go_wp2_with fail
    refine (unixTime_any _ _ _ (by omega) (by omega) (by omega) (by omega)).mono ?_
    rintro e w' ⟨rfl, hb⟩
    have hz := hb.size
    obtain ⟨hc, hf⟩ := bcell hb
    simp at hz
    go_wp2_with fail
    refine bodyPost_ret (v := .agg #[.int .u64 r, .int .i64 62135596800, .pointer none]) (by simp [results, Try.results53, go_sem, hc]) rfl ⟨⟨_, _, rfl, by unfold NS; omega, by unfold SEC; omega⟩, ?_⟩
    exact (((((Below.refl _ _).alloc (Nat.le_refl _) _).trans (hb.mono (by simp))).setCell (Nat.le_refl _) _).setCell (Nat.le_refl _) _).setCell (Nat.le_refl _) _

theorem unix_any (t : Int) (w : World) (h0 : -4000000000000000000 ≤ t) (h1 : t ≤ 4000000000000000000) :
    Calls Try.prog 53 #[.int .i64 0, .int .i64 t] w fun e w' => e = .returned (.agg #[.int .u64 (NS t), .int .i64 (SEC t), .pointer none]) ∧ Below w.heap.size w w' := by
  obtain ⟨q, r, rfl, hq, _, a, b, c, d⟩ := tdiv_parts t
  refine (unix_core q r w h0 h1 a b hq ?_).mono ?_
  · by_cases h : 1000000000 * q + r < 0
    · exact .inl ⟨h, d (by omega)⟩
    · by_cases h2 : 1000000000 * q + r < 1000000000
      · exact .inr (.inr ⟨by omega, h2, by have := c (by omega); omega⟩)
      · exact .inr (.inl ⟨by omega, c (by omega)⟩)
  · rintro e w' ⟨⟨n, s, rfl, rfl, rfl⟩, hb⟩
    exact ⟨rfl, hb⟩

end Go.Proofs.Ytcjklacfoldaoaa
