/- Contracts of the small functions of the statements' side: times, errors, rules. No condition. -/
import Derived.Test.YtcjklacfoldaoaaFun
import Derived.Deep.QuietTactic
import Derived.BigQuiet
namespace Go.Proofs.Ytcjklacfoldaoaa
open Go.RowKit
attribute [local go_sem ↓] Go.wp_at_zero Go.wp_at_succ

def isTime (t : Int) : Bool := decide (-1000000000000000 ≤ t) && decide (t ≤ 1000000000000000)
def isWait (t : Int) : Bool := decide (0 ≤ t) && decide (t ≤ 1000000000000000)
def isError (t : Int) : Bool := decide (0 ≤ t) && decide (t < 7)

set_option maxHeartbeats 400000 in
theorem isTime_any (t : Int) (w : World) : Calls Try.prog 23 #[.int .i64 t] w fun e w' => e = .returned (.bool (isTime t)) ∧ w = w' := by
  unfold isTime
  by_cases h1 : -1000000000000000 ≤ t
  · rw [decide_eq_true h1, Bool.true_and]
    go_enter Try.func23, Try.ntmps23
    go_wp2
    go_ret
    exact ⟨rfl, rfl⟩
  · rw [decide_eq_false h1, Bool.false_and]
    go_enter Try.func23, Try.ntmps23
    go_wp2
    go_ret
    exact ⟨rfl, rfl⟩
set_option maxHeartbeats 400000 in
theorem isWait_any (t : Int) (w : World) : Calls Try.prog 30 #[.int .i64 t] w fun e w' => e = .returned (.bool (isWait t)) ∧ w = w' := by
  unfold isWait
  by_cases h1 : 0 ≤ t
  · rw [decide_eq_true h1, Bool.true_and]
    go_enter Try.func30, Try.ntmps30
    go_wp2
    go_ret
    exact ⟨rfl, rfl⟩
  · rw [decide_eq_false h1, Bool.false_and]
    go_enter Try.func30, Try.ntmps30
    go_wp2
    go_ret
    exact ⟨rfl, rfl⟩
set_option maxHeartbeats 400000 in
theorem isError_any (t : Int) (w : World) : Calls Try.prog 31 #[.int .i64 t] w fun e w' => e = .returned (.bool (isError t)) ∧ w = w' := by
  unfold isError
  by_cases h1 : 0 ≤ t
  · rw [decide_eq_true h1, Bool.true_and]
    go_enter Try.func31, Try.ntmps31
    go_wp2
    go_ret
    exact ⟨rfl, rfl⟩
  · rw [decide_eq_false h1, Bool.false_and]
    go_enter Try.func31, Try.ntmps31
    go_wp2
    go_ret
    exact ⟨rfl, rfl⟩
theorem isTime_q (t : Int) (W : World) (n : Nat) : Calls Try.prog 23 #[.int .i64 t] (W.drewN n) fun e w' => e = .returned (.bool (isTime t)) ∧ ∃ m, w' = (W.drewN n).drewN m :=
  (isTime_any t (W.drewN n)).mono fun _ _ ⟨a, hm⟩ => ⟨a, 0, hm.symm⟩
theorem isWait_q (t : Int) (W : World) (n : Nat) : Calls Try.prog 30 #[.int .i64 t] (W.drewN n) fun e w' => e = .returned (.bool (isWait t)) ∧ ∃ m, w' = (W.drewN n).drewN m :=
  (isWait_any t (W.drewN n)).mono fun _ _ ⟨a, hm⟩ => ⟨a, 0, hm.symm⟩
theorem isError_q (t : Int) (W : World) (n : Nat) : Calls Try.prog 31 #[.int .i64 t] (W.drewN n) fun e w' => e = .returned (.bool (isError t)) ∧ ∃ m, w' = (W.drewN n).drewN m :=
  (isError_any t (W.drewN n)).mono fun _ _ ⟨a, hm⟩ => ⟨a, 0, hm.symm⟩

set_option maxHeartbeats 400000 in
theorem fits_any (r : Rules) (w : World) : Calls Try.prog 16 #[.agg #[.string r.name, .int .u32 r.most, .int .i64 r.interval, .int .i64 r.bucket, .int .i64 r.timeout, .int .i64 r.trip, .int .u32 r.bound, .bool r.hasGood, .int .u8 r.good, .bool r.hasOut, .int .u8 r.out]] w fun e w' =>
    e = .returned (.bool (decide ((r.name.size : Int) ≤ 2147483647))) ∧ Below w.heap.size w w' := by
  by_cases h : (r.name.size : Int) ≤ 2147483647
  · rw [decide_eq_true h]
    go_enter Try.func16, Try.ntmps16
    go_wp2
    go_ret
    exact ⟨rfl, (Below.refl _ _).alloc (Nat.le_refl _) _⟩
  · rw [decide_eq_false h]
    go_enter Try.func16, Try.ntmps16
    go_wp2
    go_ret
    exact ⟨rfl, (Below.refl _ _).alloc (Nat.le_refl _) _⟩

end Go.Proofs.Ytcjklacfoldaoaa
