/- Contracts of trips, settings and newRollingCounts. Condition: not too many buckets. -/
import Derived.Test.YtcjklacfoldaoaaTwo
import Derived.Deep.DeepCutAuto
namespace Go.Proofs.Ytcjklacfoldaoaa
open Go.RowKit
attribute [local go_sem ↓] Go.wp_at_zero Go.wp_at_succ

/-- How rules trip, as trips hands it back: nil by default. -/
def tripRaw (rb : Nat) (r : Rules) : Value :=
  if r.trip = 1 then .func (.func 78) #[] #[.pointer (some ⟨rb, 0, none⟩)]
  else if r.trip = 2 then .func (.func 79) #[] #[.pointer (some ⟨rb, 0, none⟩)]
  else if r.trip = 3 then .func (.func 80) #[] #[.pointer (some ⟨rb, 0, none⟩)]
  else if r.trip = 4 then .func (.func 81) #[] #[]
  else if r.trip = 5 then .func (.func 82) #[] #[]
  else .nilFunc

theorem make_func (fn : Fn) (first cap : Array Value) (w : World) : (Instr.makeFunc fn first cap).run Try.prog w = .ok (.func fn first cap) w := rfl

set_option maxHeartbeats 1000000 in
theorem trips_any (r : Rules) (w : World) :
    Calls Try.prog 54 #[.agg #[.string r.name, .int .u32 r.most, .int .i64 r.interval, .int .i64 r.bucket, .int .i64 r.timeout, .int .i64 r.trip, .int .u32 r.bound, .bool r.hasGood, .int .u8 r.good, .bool r.hasOut, .int .u8 r.out]] w fun e w' =>
      e = .returned (tripRaw w.heap.size r) ∧ w.alloc (.cells (rulesArr r) 24) = w' := by
  have hmf := make_func
  unfold tripRaw rulesArr
  by_cases h1 : r.trip = 1
  · rw [if_pos h1]
    have k1 : (r.trip == 1) = true := by simpa using h1
    clear h1
    go_enter Try.func54, Try.ntmps54
    go_wp2
    go_ret
    exact ⟨rfl, rfl⟩
  · have k1 : (r.trip == 1) = false := by simpa using h1
    rw [if_neg h1]
    clear h1
    by_cases h2 : r.trip = 2
    · have k2 : (r.trip == 2) = true := by simpa using h2
      rw [if_pos h2]
      clear h2
      go_enter Try.func54, Try.ntmps54
      go_wp2
      go_ret
      exact ⟨rfl, rfl⟩
    · have k2 : (r.trip == 2) = false := by simpa using h2
      rw [if_neg h2]
      clear h2
      by_cases h3 : r.trip = 3
      · have k3 : (r.trip == 3) = true := by simpa using h3
        rw [if_pos h3]
        clear h3
        go_enter Try.func54, Try.ntmps54
        go_wp2
        go_ret
        exact ⟨rfl, rfl⟩
      · have k3 : (r.trip == 3) = false := by simpa using h3
        rw [if_neg h3]
        clear h3
        by_cases h4 : r.trip = 4
        · have k4 : (r.trip == 4) = true := by simpa using h4
          rw [if_pos h4]
          clear h4
          go_enter Try.func54, Try.ntmps54
          go_wp2
          go_ret
          exact ⟨rfl, rfl⟩
        · have k4 : (r.trip == 4) = false := by simpa using h4
          rw [if_neg h4]
          clear h4
          by_cases h5 : r.trip = 5
          · have k5 : (r.trip == 5) = true := by simpa using h5
            rw [if_pos h5]
            clear h5
            go_enter Try.func54, Try.ntmps54
            go_wp2
            go_ret
            exact ⟨rfl, rfl⟩
          · have k5 : (r.trip == 5) = false := by simpa using h5
            rw [if_neg h5]
            clear h5
            go_enter Try.func54, Try.ntmps54
            go_wp2
            go_ret
            exact ⟨rfl, rfl⟩

theorem infoCnt : (Try.prog.info? 98).map (fun i => (i.zero, i.size, i.bytes)) = some (some (.agg #[.int .u32 0, .int .u32 0, .int .u32 0, .int .u32 0, .int .u32 0, .int .u32 0]), 6, 24) := by kernel_rfl

theorem made_flat (n : Nat) : madeCells #[.int .u32 0, .int .u32 0, .int .u32 0, .int .u32 0, .int .u32 0, .int .u32 0] (n * 6) = (flat (List.replicate n Cnt.zero)).toArray := by
  apply Array.ext'
  apply List.ext_getElem?
  intro i
  simp only [madeCells, Array.toList_map, List.getElem?_map, Array.toList_range]
  by_cases h : i < n * 6
  · rw [List.getElem?_range h]
    have e : i = i / 6 * 6 + i % 6 := by omega
    have h1 : i / 6 < (List.replicate n Cnt.zero).length := by simp; omega
    have h2 := flat_get h1 (Nat.mod_lt i (by omega : 0 < 6))
    rw [← e] at h2
    rw [h2, List.getElem_replicate]
    have h3 : i % 6 < 6 := Nat.mod_lt i (by omega)
    simp only [Option.map_some, List.size_toArray, List.length_cons, List.length_nil]
    generalize i % 6 = k at h3
    match k, h3 with
    | 0, _ => rfl
    | 1, _ => rfl
    | 2, _ => rfl
    | 3, _ => rfl
    | 4, _ => rfl
    | 5, _ => rfl
  · have : (List.range (n * 6))[i]? = none := by simp; omega
    rw [this]
    have h2 := flat_length (List.replicate n Cnt.zero)
    have : (flat (List.replicate n Cnt.zero))[i]? = none := by rw [List.getElem?_eq_none_iff]; rw [h2]; simp; omega
    simp [this]

set_option maxHeartbeats 400000 in
theorem rcNew_any (n : Nat) (w : World) (hn : n ≤ 1000000) :
    Calls Try.prog 68 #[.int .i64 (n : Int)] w fun e w' => e = .returned (.pointer (some ⟨w.heap.size + 1, 0, none⟩)) ∧
      (w.alloc (.cells (flat (List.replicate n Cnt.zero)).toArray 98)).alloc (.cells #[.int .u32 0, .int .u32 0, .int .u32 0, .int .u32 0, .int .u32 0, .int .u32 0, .int .u64 0, .slice (some ⟨w.heap.size, 0, none⟩) n n] 141) = w' := by
  obtain ⟨i0, hi, hz0, hz1, hz2⟩ := info_parts infoCnt
  have hmk := run_make (P := Try.prog) w 139 98 i0 (.agg #[.int .u32 0, .int .u32 0, .int .u32 0, .int .u32 0, .int .u32 0, .int .u32 0]) Try.underlying139 hi hz0 .i64 .i64 (n : Int) (n : Int) (by omega) (by omega) (by rw [hz2]; omega) (by omega)
  rw [hz1, Int.toNat_natCast] at hmk
  have e : (Value.agg #[.int .u32 0, .int .u32 0, .int .u32 0, .int .u32 0, .int .u32 0, .int .u32 0]).cells = #[.int .u32 0, .int .u32 0, .int .u32 0, .int .u32 0, .int .u32 0, .int .u32 0] := rfl
  rw [e, made_flat] at hmk
  have h0 : ¬ (n : Int) < 0 := by omega
  clear hi hz0 hz1 hz2 e
  go_enter Try.func68, Try.ntmps68
  go_wp2
  go_ret
  exact ⟨rfl, rfl⟩

def goodRaw (rs : Nat) (r : Rules) : Value := if r.hasGood then .func (.func 56) #[] #[.pointer (some ⟨rs, 0, none⟩)] else .nilFunc
def outRaw (rs : Nat) (r : Rules) : Value := if r.hasOut then .func (.func 58) #[] #[.pointer (some ⟨rs, 0, none⟩)] else .nilFunc

end Go.Proofs.Ytcjklacfoldaoaa
