/- Contracts of the functions that the settings hold: how a breaker trips, which errors are good, which are left out, the clock. Condition: the rules lie in the blocks that the functions hold. -/
import Derived.Test.YtcjklacfoldaoaaModelB
import Derived.Deep.RegionHeld3
import Derived.Deep.DrawnRows
import Derived.Deep.RegionWith
import Derived.LaidEql
namespace Go.Proofs.Ytcjklacfoldaoaa
open Go.RowKit
attribute [local go_sem ↓] Go.wp_at_zero Go.wp_at_succ

/-- Whether a breaker trips by its counts. -/
def tripB (r : Rules) (c : Cnt) : Bool :=
  if r.trip = 1 then decide (r.bound ≤ c.h) else if r.trip = 2 then decide (r.bound ≤ c.f)
  else if r.trip = 3 then decide (r.bound ≤ c.r) && decide (c.r ≤ w32 (2 * c.f)) else if r.trip = 4 then true else if r.trip = 5 then false else decide (5 < c.h)

def cntV (c : Cnt) : Value := .agg #[.int .u32 c.r, .int .u32 c.s, .int .u32 c.f, .int .u32 c.x, .int .u32 c.g, .int .u32 c.h]

theorem rules_cells {w : World} {b : Nat} {r : Rules} (h : w.heap[b]? = some (.cells (rulesArr r) 24 (0, 0))) :
    (∀ i, w.cell? ⟨b, i, none⟩ = #[.string r.name, .int .u32 r.most, .int .i64 r.interval, .int .i64 r.bucket, .int .i64 r.timeout, .int .i64 r.trip, .int .u32 r.bound, .bool r.hasGood, .int .u8 r.good, .bool r.hasOut, .int .u8 r.out][i]?) ∧ b < w.heap.size :=
  ⟨blk_cell h, size_of_heap h⟩

set_option maxHeartbeats 400000 in
theorem trip1_any (b : Nat) (r : Rules) (c : Cnt) (w : World) (h : w.heap[b]? = some (.cells (rulesArr r) 24 (0, 0))) :
    Calls Try.prog 78 #[.agg #[.int .u32 c.r, .int .u32 c.s, .int .u32 c.f, .int .u32 c.x, .int .u32 c.g, .int .u32 c.h], .pointer (some ⟨b, 0, none⟩)] w fun e w' => e = .returned (.bool (decide (r.bound ≤ c.h))) ∧ Below w.heap.size w w' := by
  obtain ⟨hc, hz⟩ := rules_cells h
  clear h
  have z1 : b ≠ w.heap.size := by omega
  go_enter Try.func78, Try.ntmps78
  go_wp2
  go_ret
  exact ⟨rfl, (Below.refl _ _).alloc (Nat.le_refl _) _⟩

set_option maxHeartbeats 400000 in
theorem trip2_any (b : Nat) (r : Rules) (c : Cnt) (w : World) (h : w.heap[b]? = some (.cells (rulesArr r) 24 (0, 0))) :
    Calls Try.prog 79 #[.agg #[.int .u32 c.r, .int .u32 c.s, .int .u32 c.f, .int .u32 c.x, .int .u32 c.g, .int .u32 c.h], .pointer (some ⟨b, 0, none⟩)] w fun e w' => e = .returned (.bool (decide (r.bound ≤ c.f))) ∧ Below w.heap.size w w' := by
  obtain ⟨hc, hz⟩ := rules_cells h
  clear h
  have z1 : b ≠ w.heap.size := by omega
  go_enter Try.func79, Try.ntmps79
  go_wp2
  go_ret
  exact ⟨rfl, (Below.refl _ _).alloc (Nat.le_refl _) _⟩

set_option maxHeartbeats 400000 in
theorem trip3_any (b : Nat) (r : Rules) (c : Cnt) (w : World) (h : w.heap[b]? = some (.cells (rulesArr r) 24 (0, 0))) :
    Calls Try.prog 80 #[.agg #[.int .u32 c.r, .int .u32 c.s, .int .u32 c.f, .int .u32 c.x, .int .u32 c.g, .int .u32 c.h], .pointer (some ⟨b, 0, none⟩)] w fun e w' => e = .returned (.bool (decide (r.bound ≤ c.r) && decide (c.r ≤ w32 (2 * c.f)))) ∧ Below w.heap.size w w' := by
  obtain ⟨hc, hz⟩ := rules_cells h
  clear h
  have z1 : b ≠ w.heap.size := by omega
  by_cases hb : r.bound ≤ c.r
  · go_enter Try.func80, Try.ntmps80
    go_wp2
    go_ret
    exact ⟨by simp [hb]; rfl, (Below.refl _ _).alloc (Nat.le_refl _) _⟩
  · have hb' : decide (r.bound ≤ c.r) = false := by simpa using hb
    go_enter Try.func80, Try.ntmps80
    go_wp2
    go_ret
    exact ⟨by simp, (Below.refl _ _).alloc (Nat.le_refl _) _⟩

set_option maxHeartbeats 400000 in
theorem trip4_any (c : Cnt) (w : World) :
    Calls Try.prog 81 #[.agg #[.int .u32 c.r, .int .u32 c.s, .int .u32 c.f, .int .u32 c.x, .int .u32 c.g, .int .u32 c.h]] w fun e w' => e = .returned (.bool true) ∧ Below w.heap.size w w' := by
  go_enter Try.func81, Try.ntmps81
  go_wp2
  go_ret
  exact ⟨rfl, (Below.refl _ _).alloc (Nat.le_refl _) _⟩
set_option maxHeartbeats 400000 in
theorem trip5_any (c : Cnt) (w : World) :
    Calls Try.prog 82 #[.agg #[.int .u32 c.r, .int .u32 c.s, .int .u32 c.f, .int .u32 c.x, .int .u32 c.g, .int .u32 c.h]] w fun e w' => e = .returned (.bool false) ∧ Below w.heap.size w w' := by
  go_enter Try.func82, Try.ntmps82
  go_wp2
  go_ret
  exact ⟨rfl, (Below.refl _ _).alloc (Nat.le_refl _) _⟩
set_option maxHeartbeats 400000 in
theorem trip0_any (c : Cnt) (w : World) :
    Calls Try.prog 69 #[.agg #[.int .u32 c.r, .int .u32 c.s, .int .u32 c.f, .int .u32 c.x, .int .u32 c.g, .int .u32 c.h]] w fun e w' => e = .returned (.bool (decide (5 < c.h))) ∧ Below w.heap.size w w' := by
  go_enter Try.func69, Try.ntmps69
  go_wp2
  go_ret
  exact ⟨rfl, (Below.refl _ _).alloc (Nat.le_refl _) _⟩

theorem enter_rules_trips_1 (args : Array Value) (w : World) : (callFunc 78 args).run Try.prog w = .ok (.enter 78 args) w := by kernel_rfl
theorem enter_rules_trips_2 (args : Array Value) (w : World) : (callFunc 79 args).run Try.prog w = .ok (.enter 79 args) w := by kernel_rfl
theorem enter_rules_trips_3 (args : Array Value) (w : World) : (callFunc 80 args).run Try.prog w = .ok (.enter 80 args) w := by kernel_rfl
theorem enter_rules_trips_4 (args : Array Value) (w : World) : (callFunc 81 args).run Try.prog w = .ok (.enter 81 args) w := by kernel_rfl
theorem enter_rules_trips_5 (args : Array Value) (w : World) : (callFunc 82 args).run Try.prog w = .ok (.enter 82 args) w := by kernel_rfl
theorem enter_gb_defaultReadyToTrip (args : Array Value) (w : World) : (callFunc 69 args).run Try.prog w = .ok (.enter 69 args) w := by kernel_rfl
theorem enter_bed_settings_3 (args : Array Value) (w : World) : (callFunc 56 args).run Try.prog w = .ok (.enter 56 args) w := by kernel_rfl
theorem enter_gb_defaultIsSuccessful (args : Array Value) (w : World) : (callFunc 70 args).run Try.prog w = .ok (.enter 70 args) w := by kernel_rfl
theorem enter_bed_settings_4 (args : Array Value) (w : World) : (callFunc 58 args).run Try.prog w = .ok (.enter 58 args) w := by kernel_rfl
theorem enter_gb_defaultIsExcluded (args : Array Value) (w : World) : (callFunc 71 args).run Try.prog w = .ok (.enter 71 args) w := by kernel_rfl

/-- Whatever way: a function, what it holds, and what it answers. -/
theorem trip_any (L : Loc) (r : Rules) : ∃ g cap, tripV L r = .func (.func g) #[] cap ∧ (∀ (args : Array Value) (w : World), (callFunc g args).run Try.prog w = .ok (.enter g args) w) ∧ ∀ (c : Cnt) (w : World), w.heap[L.rb]? = some (.cells (rulesArr r) 24 (0, 0)) →
    Calls Try.prog g (#[.agg #[.int .u32 c.r, .int .u32 c.s, .int .u32 c.f, .int .u32 c.x, .int .u32 c.g, .int .u32 c.h]] ++ cap) w fun e w' => e = .returned (.bool (tripB r c)) ∧ Below w.heap.size w w' := by
  unfold tripV tripB
  by_cases h1 : r.trip = 1
  · simp only [h1, if_true]; exact ⟨_, _, rfl, enter_rules_trips_1, fun c w h => trip1_any _ r c w h⟩
  · by_cases h2 : r.trip = 2
    · simp only [h2, if_true]; exact ⟨_, _, rfl, enter_rules_trips_2, fun c w h => trip2_any _ r c w h⟩
    · by_cases h3 : r.trip = 3
      · simp only [h3, if_true]; exact ⟨_, _, rfl, enter_rules_trips_3, fun c w h => trip3_any _ r c w h⟩
      · by_cases h4 : r.trip = 4
        · simp only [h4, if_true]; exact ⟨_, _, rfl, enter_rules_trips_4, fun c w _ => trip4_any c w⟩
        · by_cases h5 : r.trip = 5
          · simp only [h5, if_true]; exact ⟨_, _, rfl, enter_rules_trips_5, fun c w _ => trip5_any c w⟩
          · simp only [if_neg h1, if_neg h2, if_neg h3, if_neg h4, if_neg h5]; exact ⟨_, _, rfl, enter_gb_defaultReadyToTrip, fun c w _ => trip0_any c w⟩

/-- An error and its number: 0 none, 1 to 6 a failed request's, 7 a panic's. -/
def ErrIs (v : Value) (n : Int) : Prop :=
  (v = .nilIface ∧ n = 0) ∨ (v = .iface 128 (.int .i64 n) ∧ 1 ≤ n ∧ n ≤ 6) ∨ (∃ s, v = .iface 127 (.string s) ∧ n = 7)
theorem ErrIs.lo {v : Value} {n : Int} (h : ErrIs v n) : 0 ≤ n ∧ n ≤ 7 := by
  rcases h with ⟨_, rfl⟩ | ⟨_, a, b⟩ | ⟨s, _, rfl⟩ <;> omega

theorem as_failed (v : Value) (w : World) : (Instr.typeAssert (.iface 128 v) 91 128 true).run Try.prog w = .ok (.tuple #[v, .bool true]) w := by kernel_rfl
theorem as_data (v : Value) (w : World) : (Instr.typeAssert (.iface 127 v) 91 128 true).run Try.prog w = .ok (.tuple #[.int .i64 0, .bool false]) w := by kernel_rfl
theorem eq_failed_nil (n : Int) (w : World) : (binOp .eql 91 (.iface 128 (.int .i64 n)) .nilIface).run Try.prog w = .ok (.bool false) w := by kernel_rfl
theorem eq_data_nil (s : ByteArray) (w : World) : (binOp .eql 91 (.iface 127 (.string s)) .nilIface).run Try.prog w = .ok (.bool false) w := by kernel_rfl
theorem eq_nil_nil (w : World) : (binOp .eql 91 .nilIface .nilIface).run Try.prog w = .ok (.bool true) w := by kernel_rfl

set_option maxHeartbeats 400000 in
theorem number_any (v : Value) (n : Int) (w : World) (h : ErrIs v n) :
    Calls Try.prog 57 #[v] w fun e w' => e = .returned (.int .i64 n) ∧ w = w' := by
  rcases h with ⟨rfl, rfl⟩ | ⟨rfl, a, b⟩ | ⟨s, rfl, rfl⟩
  · go_enter Try.func57, Try.ntmps57
    go_wp2
    go_ret
    exact ⟨rfl, rfl⟩
  · have q1 := as_failed
    have q2 := eq_failed_nil
    go_enter Try.func57, Try.ntmps57
    go_wp2
    go_ret
    exact ⟨rfl, rfl⟩
  · have q1 := as_data
    have q2 := eq_data_nil
    go_enter Try.func57, Try.ntmps57
    go_wp2
    go_ret
    exact ⟨rfl, rfl⟩

/-- Whether an error is good, whether it is left out. -/
def bitB (x n : Int) : Bool := bits BinOp.and IntKind.u8 (x / 2 ^ n.toNat) 1 == 1
def goodB (r : Rules) (n : Int) : Bool := if r.hasGood then bitB r.good n else n == 0
def outB (r : Rules) (n : Int) : Bool := if r.hasOut then bitB r.out n else false

set_option maxHeartbeats 400000 in
theorem good0_any (v : Value) (n : Int) (w : World) (h : ErrIs v n) :
    Calls Try.prog 70 #[v] w fun e w' => e = .returned (.bool (n == 0)) ∧ Below w.heap.size w w' := by
  rcases h with ⟨rfl, rfl⟩ | ⟨rfl, a, b⟩ | ⟨s, rfl, rfl⟩
  · go_enter Try.func70, Try.ntmps70
    go_wp2
    go_ret
    exact ⟨rfl, Below.refl _ _⟩
  · have q2 := eq_failed_nil
    have hn : (n == 0) = false := by simp; omega
    go_enter Try.func70, Try.ntmps70
    go_wp2
    go_ret
    exact ⟨by rw [hn]; rfl, Below.refl _ _⟩
  · have q2 := eq_data_nil
    go_enter Try.func70, Try.ntmps70
    go_wp2
    go_ret
    exact ⟨rfl, Below.refl _ _⟩
set_option maxHeartbeats 400000 in
theorem out0_any (v : Value) (w : World) :
    Calls Try.prog 71 #[v] w fun e w' => e = .returned (.bool false) ∧ Below w.heap.size w w' := by
  go_enter Try.func71, Try.ntmps71
  go_wp2
  go_ret
  exact ⟨rfl, Below.refl _ _⟩

set_option maxHeartbeats 1000000 in
theorem good1_any (b : Nat) (r : Rules) (v : Value) (n : Int) (w : World) (h : w.heap[b]? = some (.cells (rulesArr r) 24 (0, 0))) (he : ErrIs v n) (_g0 : 0 ≤ r.good) (_g1 : r.good < 256) :
    Calls Try.prog 56 #[v, .pointer (some ⟨b, 0, none⟩)] w fun e w' => e = .returned (.bool (bitB r.good n)) ∧ Below w.heap.size w w' := by
  obtain ⟨hc, hz⟩ := rules_cells h
  have c8 := hc 8
  simp at c8
  clear hc h
  obtain ⟨n0, n1⟩ := he.lo
  go_enter Try.func56, Try.ntmps56
  go_wp2
  go_region_held3 (fun w' => w'.cell? ⟨b, 8, none⟩ = some (.int .u8 r.good)) (go_keep)
    ((first | (go_at_call 57; refine (number_any v n _ he).mono ?_; rintro e w1 ⟨rfl, rfl⟩)))
  go_wp2
  go_ret
  exact ⟨rfl, (Below.refl _ _).drew⟩
set_option maxHeartbeats 1000000 in
theorem out1_any (b : Nat) (r : Rules) (v : Value) (n : Int) (w : World) (h : w.heap[b]? = some (.cells (rulesArr r) 24 (0, 0))) (he : ErrIs v n) (_g0 : 0 ≤ r.out) (_g1 : r.out < 256) :
    Calls Try.prog 58 #[v, .pointer (some ⟨b, 0, none⟩)] w fun e w' => e = .returned (.bool (bitB r.out n)) ∧ Below w.heap.size w w' := by
  obtain ⟨hc, hz⟩ := rules_cells h
  have c8 := hc 10
  simp at c8
  clear hc h
  obtain ⟨n0, n1⟩ := he.lo
  go_enter Try.func58, Try.ntmps58
  go_wp2
  go_region_held3 (fun w' => w'.cell? ⟨b, 10, none⟩ = some (.int .u8 r.out)) (go_keep)
    ((first | (go_at_call 57; refine (number_any v n _ he).mono ?_; rintro e w1 ⟨rfl, rfl⟩)))
  go_wp2
  go_ret
  exact ⟨rfl, (Below.refl _ _).drew⟩

/-- What is known of rules' numbers. -/
structure Rules.Ok (r : Rules) : Prop where
  good0 : 0 ≤ r.good
  good1 : r.good < 256
  out0 : 0 ≤ r.out
  out1 : r.out < 256

theorem good_any (L : Loc) (r : Rules) (ok : r.Ok) : ∃ g cap, goodV L r = .func (.func g) #[] cap ∧ (∀ (args : Array Value) (w : World), (callFunc g args).run Try.prog w = .ok (.enter g args) w) ∧ ∀ (v : Value) (n : Int) (w : World), w.heap[L.rs]? = some (.cells (rulesArr r) 24 (0, 0)) → ErrIs v n →
    Calls Try.prog g (#[v] ++ cap) w fun e w' => e = .returned (.bool (goodB r n)) ∧ Below w.heap.size w w' := by
  unfold goodV goodB
  by_cases h : r.hasGood = true
  · simp only [h, if_true]; exact ⟨_, _, rfl, enter_bed_settings_3, fun v n w hb he => good1_any _ r v n w hb he ok.good0 ok.good1⟩
  · simp only [h]; exact ⟨_, _, rfl, enter_gb_defaultIsSuccessful, fun v n w _ he => good0_any v n w he⟩
theorem out_any (L : Loc) (r : Rules) (ok : r.Ok) : ∃ g cap, outV L r = .func (.func g) #[] cap ∧ (∀ (args : Array Value) (w : World), (callFunc g args).run Try.prog w = .ok (.enter g args) w) ∧ ∀ (v : Value) (n : Int) (w : World), w.heap[L.rs]? = some (.cells (rulesArr r) 24 (0, 0)) → ErrIs v n →
    Calls Try.prog g (#[v] ++ cap) w fun e w' => e = .returned (.bool (outB r n)) ∧ Below w.heap.size w w' := by
  unfold outV outB
  by_cases h : r.hasOut = true
  · simp only [h, if_true]; exact ⟨_, _, rfl, enter_bed_settings_4, fun v n w hb he => out1_any _ r v n w hb he ok.out0 ok.out1⟩
  · simp only [h]; exact ⟨_, _, rfl, enter_gb_defaultIsExcluded, fun v n w _ _ => out0_any v w⟩

end Go.Proofs.Ytcjklacfoldaoaa
