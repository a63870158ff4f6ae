/- Contracts of the functions of package time that the breakers call: a time is its seconds s and nanoseconds n. Conditions: the numbers lie in the ranges that each theorem names. -/
import Derived.Test.YtcjklacfoldaoaaBase
namespace Go.Proofs.Ytcjklacfoldaoaa
open Go.RowKit

theorem bits_nsec (n : Int) (h0 : 0 ≤ n) (h1 : n < 1000000000) : bits BinOp.and IntKind.u64 n 1073741823 = n := by
  rw [u64_and n 1073741823 h0 (by omega) (by omega) (by omega)]
  rw [show (1073741823 : Int).toNat = 2 ^ 30 - 1 from rfl, Nat.and_two_pow_sub_one_eq_mod]
  omega
theorem bits_mono (n : Int) (h0 : 0 ≤ n) (h1 : n < 1000000000) : bits BinOp.and IntKind.u64 n 9223372036854775808 = 0 := by
  rw [u64_and n 9223372036854775808 h0 (by omega) (by omega) (by omega)]
  rw [show (9223372036854775808 : Int).toNat = 2 ^ 63 from rfl, nat_bit]
  have : n.toNat / 2 ^ 63 = 0 := Nat.div_eq_of_lt (by omega)
  rw [this]; rfl
theorem bits_both (n m : Int) (h0 : 0 ≤ n) (h1 : n < 1000000000) (h2 : 0 ≤ m) (h3 : m < 1000000000) : 0 ≤ bits BinOp.and IntKind.u64 n m ∧ bits BinOp.and IntKind.u64 n m < 1000000000 := by
  rw [u64_and n m h0 (by omega) (by omega) (by omega)]
  have := Nat.and_le_left (n := n.toNat) (m := m.toNat)
  omega
theorem bits_both0 (n m : Int) (h0 : 0 ≤ n) (h1 : n < 1000000000) (h2 : 0 ≤ m) (h3 : m < 1000000000) : bits BinOp.and IntKind.u64 (bits BinOp.and IntKind.u64 n m) 9223372036854775808 = 0 :=
  bits_mono _ (bits_both n m h0 h1 h2 h3).1 (bits_both n m h0 h1 h2 h3).2

set_option maxHeartbeats 400000 in
theorem nsec_any (b o : Nat) (n : Int) (w : World) (h0 : 0 ≤ n) (h1 : n < 1000000000) (hc : w.cell? ⟨b, o, none⟩ = some (.int .u64 n)) :
    Calls Try.prog 103 #[.pointer (some ⟨b, o, none⟩)] w fun e w' => e = .returned (.int .i32 n) ∧ w = w' := by
  have hb := bits_nsec n h0 h1
  go_enter Try.func103, Try.ntmps103
  go_wp2
  go_ret
  exact ⟨rfl, rfl⟩

set_option maxHeartbeats 400000 in
theorem sec_any (b o : Nat) (n s : Int) (w : World) (h0 : 0 ≤ n) (h1 : n < 1000000000) (hc : w.cell? ⟨b, o, none⟩ = some (.int .u64 n)) (hs : w.cell? ⟨b, o + 1, none⟩ = some (.int .i64 s)) :
    Calls Try.prog 106 #[.pointer (some ⟨b, o, none⟩)] w fun e w' => e = .returned (.int .i64 s) ∧ w = w' := by
  have hb := bits_mono n h0 h1
  go_enter Try.func106, Try.ntmps106
  go_wp2
  go_ret
  exact ⟨rfl, rfl⟩

set_option maxHeartbeats 400000 in
theorem isZero_any (n s : Int) (w : World) :
    Calls Try.prog 92 #[.agg #[.int .u64 n, .int .i64 s, .pointer none]] w fun e w' => e = .returned (.bool (n == 0 && s == 0)) ∧ Below w.heap.size w w' := by
  by_cases hn : n = 0
  · subst hn
    go_enter Try.func92, Try.ntmps92
    go_wp2
    go_ret
    exact ⟨by simp, (Below.refl _ _).alloc (Nat.le_refl _) _⟩
  · have hn' : (n == 0) = false := by simpa using hn
    go_enter Try.func92, Try.ntmps92
    go_wp2
    go_ret
    exact ⟨by simp [hn'], (Below.refl _ _).alloc (Nat.le_refl _) _⟩


set_option maxHeartbeats 400000 in
theorem unixTime_any (s n : Int) (w : World) (h0 : 0 ≤ n) (h1 : n < 1000000000) (h2 : -9000000000000000000 ≤ s) (h3 : s ≤ 9000000000000000000) :
    Calls Try.prog 77 #[.int .i64 s, .int .i32 n] w fun e w' => e = .returned (.agg #[.int .u64 n, .int .i64 (s + 62135596800), .pointer none]) ∧ Below w.heap.size w w' := by
  go_enter Try.func77, Try.ntmps77
  go_wp2
  refine bodyPost_ret (v := .agg #[.int .u64 n, .int .i64 (s + 62135596800), .pointer none]) (by simp [results, Try.results77, go_sem]) rfl ⟨rfl, (Below.refl _ _).alloc (Nat.le_refl _) _⟩

set_option maxHeartbeats 1000000 in
theorem before_any (n s m t : Int) (w : World) (h0 : 0 ≤ n) (h1 : n < 1000000000) (h2 : 0 ≤ m) (h3 : m < 1000000000) :
    Calls Try.prog 93 #[.agg #[.int .u64 n, .int .i64 s, .pointer none], .agg #[.int .u64 m, .int .i64 t, .pointer none]] w fun e w' => e = .returned (.bool (decide (s < t ∨ s = t ∧ n < m))) ∧ Below w.heap.size w w' := by
  have hb := bits_both0 n m h0 h1 h2 h3
  have key : s < t ∨ s = t ∨ t < s := by omega
  rcases key with hst | hst | hst
  · go_enter Try.func93, Try.ntmps93
    go_wp2_with fail
    refine (sec_any w.heap.size 0 n s _ h0 h1 (by simp) (by simp)).mono ?_
    rintro e w' ⟨rfl, rfl⟩
    go_wp2_with fail
    refine (sec_any (w.heap.size + 1) 0 m t _ h2 h3 (by simp) (by simp)).mono ?_
    rintro e w' ⟨rfl, rfl⟩
    go_wp2_with fail
    go_ret
    exact ⟨by simp [hst], ((Below.refl _ _).alloc (Nat.le_refl _) _).alloc (by simp) _⟩
  · subst hst
    go_enter Try.func93, Try.ntmps93
    go_wp2_with fail
    refine (sec_any w.heap.size 0 n s _ h0 h1 (by simp) (by simp)).mono ?_
    rintro e w' ⟨rfl, rfl⟩
    go_wp2_with fail
    refine (sec_any (w.heap.size + 1) 0 m s _ h2 h3 (by simp) (by simp)).mono ?_
    rintro e w' ⟨rfl, rfl⟩
    go_wp2_with fail
    refine (nsec_any w.heap.size 0 n _ h0 h1 (by simp)).mono ?_
    rintro e w' ⟨rfl, rfl⟩
    go_wp2_with fail
    refine (nsec_any (w.heap.size + 1) 0 m _ h2 h3 (by simp)).mono ?_
    rintro e w' ⟨rfl, rfl⟩
    go_wp2_with fail
    go_ret
    exact ⟨by simp, ((Below.refl _ _).alloc (Nat.le_refl _) _).alloc (by simp) _⟩
  · have hne : (s == t) = false := by simp; omega
    go_enter Try.func93, Try.ntmps93
    go_wp2_with fail
    refine (sec_any w.heap.size 0 n s _ h0 h1 (by simp) (by simp)).mono ?_
    rintro e w' ⟨rfl, rfl⟩
    go_wp2_with fail
    refine (sec_any (w.heap.size + 1) 0 m t _ h2 h3 (by simp) (by simp)).mono ?_
    rintro e w' ⟨rfl, rfl⟩
    go_wp2_with fail
    go_ret
    exact ⟨by simp; omega, ((Below.refl _ _).alloc (Nat.le_refl _) _).alloc (by simp) _⟩

set_option maxHeartbeats 1000000 in
theorem equal_any (n s m t : Int) (w : World) (h0 : 0 ≤ n) (h1 : n < 1000000000) (h2 : 0 ≤ m) (h3 : m < 1000000000) :
    Calls Try.prog 115 #[.agg #[.int .u64 n, .int .i64 s, .pointer none], .agg #[.int .u64 m, .int .i64 t, .pointer none]] w fun e w' => e = .returned (.bool (decide (s = t ∧ n = m))) ∧ Below w.heap.size w w' := by
  have hb := bits_both0 n m h0 h1 h2 h3
  by_cases hst : s = t
  · subst hst
    go_enter Try.func115, Try.ntmps115
    go_wp2_with fail
    refine (sec_any w.heap.size 0 n s _ h0 h1 (by simp) (by simp)).mono ?_
    rintro e w' ⟨rfl, rfl⟩
    go_wp2_with fail
    refine (sec_any (w.heap.size + 1) 0 m s _ h2 h3 (by simp) (by simp)).mono ?_
    rintro e w' ⟨rfl, rfl⟩
    go_wp2_with fail
    refine (nsec_any w.heap.size 0 n _ h0 h1 (by simp)).mono ?_
    rintro e w' ⟨rfl, rfl⟩
    go_wp2_with fail
    refine (nsec_any (w.heap.size + 1) 0 m _ h2 h3 (by simp)).mono ?_
    rintro e w' ⟨rfl, rfl⟩
    go_wp2_with fail
    go_ret
    exact ⟨by simp; rfl, ((Below.refl _ _).alloc (Nat.le_refl _) _).alloc (by simp) _⟩
  · have hne : (s == t) = false := by simpa using hst
    go_enter Try.func115, Try.ntmps115
    go_wp2_with fail
    refine (sec_any w.heap.size 0 n s _ h0 h1 (by simp) (by simp)).mono ?_
    rintro e w' ⟨rfl, rfl⟩
    go_wp2_with fail
    refine (sec_any (w.heap.size + 1) 0 m t _ h2 h3 (by simp) (by simp)).mono ?_
    rintro e w' ⟨rfl, rfl⟩
    go_wp2_with fail
    go_ret
    exact ⟨by simp [hst], ((Below.refl _ _).alloc (Nat.le_refl _) _).alloc (by simp) _⟩

set_option maxHeartbeats 1000000 in
theorem addSec_any (b o : Nat) (n x d : Int) (w : World) (h0 : 0 ≤ n) (h1 : n < 1000000000) (hc : w.cell? ⟨b, o, none⟩ = some (.int .u64 n)) (hx : w.cell? ⟨b, o + 1, none⟩ = some (.int .i64 x))
    (hf : w.frozen? ⟨b, o + 1, none⟩ = false) (a1 : -4000000000000000000 ≤ x) (a2 : x ≤ 4000000000000000000) (a3 : -4000000000000000000 ≤ d) (a4 : d ≤ 4000000000000000000) :
    Calls Try.prog 104 #[.pointer (some ⟨b, o, none⟩), .int .i64 d] w fun e w' => e = .returned (.tuple #[]) ∧ w.setCell ⟨b, o + 1, none⟩ (.int .i64 (x + d)) = w' := by
  have hb := bits_mono n h0 h1
  by_cases hd : 0 < d
  · have e1 : decide (x < x + d) = true := by simp; omega
    have e2 : decide (0 < d) = true := by simp; omega
    go_enter Try.func104, Try.ntmps104
    go_wp2

    go_end0
    exact ⟨rfl, rfl⟩
  · have e1 : decide (x < x + d) = false := by simp; omega
    have e2 : decide (0 < d) = false := by simp; omega
    go_enter Try.func104, Try.ntmps104
    go_wp2

    go_end0
    exact ⟨rfl, rfl⟩

end Go.Proofs.Ytcjklacfoldaoaa
