/- Contracts of the small functions: fault, code, counts, Counts, State, ZZGeneration. Conditions: the breaker, its bed and its rules lie in their blocks, the numbers are in their ranges. -/
import Derived.Test.YtcjklacfoldaoaaAfter
namespace Go.Proofs.Ytcjklacfoldaoaa
open Go.RowKit
attribute [local go_sem ↓] Go.wp_at_zero Go.wp_at_succ

/-- The error of a number. -/
def errV (n : Int) : Value := if n = 0 then .nilIface else .iface 128 (.int .i64 n)
theorem errV_is {n : Int} (h0 : 0 ≤ n) (h1 : n ≤ 6) : ErrIs (errV n) n := by
  unfold errV
  by_cases h : n = 0
  · rw [if_pos h]; exact .inl ⟨rfl, h⟩
  · rw [if_neg h]; exact .inr (.inl ⟨rfl, by omega, h1⟩)

set_option maxHeartbeats 400000 in
theorem fault_any (n : Int) (w : World) : Calls Try.prog 38 #[.int .i64 n] w fun e w' => e = .returned (errV n) ∧ w = w' := by
  by_cases h : n = 0
  · subst h
    go_enter Try.func38, Try.ntmps38
    go_wp2
    go_ret
    exact ⟨rfl, rfl⟩
  · have hn : (n == 0) = false := by simpa using h
    have e : errV n = .iface 128 (.int .i64 n) := by unfold errV; rw [if_neg h]
    rw [e]
    go_enter Try.func38, Try.ntmps38
    go_wp2
    go_ret
    exact ⟨rfl, rfl⟩

theorem eq_open_open (w : World) : (binOp .eql 91 (.iface 127 (.string openText)) (.iface 127 (.string openText))).run Try.prog w = .ok (.bool true) w := by kernel_rfl
theorem eq_many_open (w : World) : (binOp .eql 91 (.iface 127 (.string manyText)) (.iface 127 (.string openText))).run Try.prog w = .ok (.bool false) w := by kernel_rfl
theorem eq_many_many (w : World) : (binOp .eql 91 (.iface 127 (.string manyText)) (.iface 127 (.string manyText))).run Try.prog w = .ok (.bool true) w := by kernel_rfl
theorem eq_nil_data (s : ByteArray) (w : World) : (binOp .eql 91 .nilIface (.iface 127 (.string s))).run Try.prog w = .ok (.bool false) w := by kernel_rfl
theorem eq_failed_data (n : Int) (s : ByteArray) (w : World) : (binOp .eql 91 (.iface 128 (.int .i64 n)) (.iface 127 (.string s))).run Try.prog w = .ok (.bool false) w := by kernel_rfl

set_option maxHeartbeats 400000 in
theorem code_any (n : Int) (w : World) (h0 : 0 ≤ n) (h1 : n ≤ 2) : Calls Try.prog 37 #[codeV n] w fun e w' => e = .returned (.int .i64 n) ∧ w = w' := by
  have q1 := eq_open_open
  have q2 := eq_many_open
  have q3 := eq_many_many
  have q4 := eq_nil_data
  simp only [openText, manyText] at q1 q2 q3
  have hn : n = 0 ∨ n = 1 ∨ n = 2 := by omega
  rcases hn with rfl | rfl | rfl
  · have e : codeV 0 = .nilIface := rfl
    rw [e]
    go_enter Try.func37, Try.ntmps37
    go_wp2
    go_ret
    exact ⟨rfl, rfl⟩
  · have e : codeV 1 = .iface 127 (.string openText) := rfl
    rw [e]
    unfold openText
    go_enter Try.func37, Try.ntmps37
    go_wp2
    go_ret
    exact ⟨rfl, rfl⟩
  · have e : codeV 2 = .iface 127 (.string manyText) := rfl
    rw [e]
    unfold manyText
    go_enter Try.func37, Try.ntmps37
    go_wp2
    go_ret
    exact ⟨rfl, rfl⟩

set_option maxHeartbeats 400000 in
theorem counts_any (c : Cnt) (w : World) :
    Calls Try.prog 39 #[.agg #[.int .u32 c.r, .int .u32 c.s, .int .u32 c.f, .int .u32 c.x, .int .u32 c.g, .int .u32 c.h]] w fun e w' => e = .returned (.agg #[.int .u32 c.r, .int .u32 c.s, .int .u32 c.f, .int .u32 c.x, .int .u32 c.g, .int .u32 c.h]) ∧ Below w.heap.size w w' := by
  go_enter Try.func39, Try.ntmps39
  go_wp2
  refine bodyPost_ret (v := .agg #[.int .u32 c.r, .int .u32 c.s, .int .u32 c.f, .int .u32 c.x, .int .u32 c.g, .int .u32 c.h]) (by simp [results, Try.results39, go_sem]) rfl ⟨rfl, ?_⟩
  exact ((Below.refl _ _).alloc (Nat.le_refl _) _).alloc (by simp) _

set_option maxHeartbeats 400000 in
theorem cbCounts_any (L : Loc) (r : Rules) (c : CB) (w : World) (h : CBat w L r c) :
    Calls Try.prog 50 #[.pointer (some ⟨L.cb, 0, none⟩)] w fun e w' => e = .returned (.agg #[.int .u32 c.rc.tot.r, .int .u32 c.rc.tot.s, .int .u32 c.rc.tot.f, .int .u32 c.rc.tot.x, .int .u32 c.rc.tot.g, .int .u32 c.rc.tot.h]) ∧ Below w.heap.size w w' := by
  obtain ⟨hc, hf⟩ := h.cells
  have g12 := hc 12
  have rr := h.rc.cells.1
  have r0 := rr 0
  have r1 := rr 1
  have r2 := rr 2
  have r3 := rr 3
  have r4 := rr 4
  have r5 := rr 5
  simp at g12 r0 r1 r2 r3 r4 r5
  have z1 := size_of_heap h.cb
  have z2 := size_of_heap h.rc.1
  clear h hc hf rr
  go_enter Try.func50, Try.ntmps50
  go_wp2
  refine bodyPost_ret (v := .agg #[.int .u32 c.rc.tot.r, .int .u32 c.rc.tot.s, .int .u32 c.rc.tot.f, .int .u32 c.rc.tot.x, .int .u32 c.rc.tot.g, .int .u32 c.rc.tot.h]) (by simp [results, Try.results50, go_sem]) rfl ⟨rfl, ?_⟩
  exact (Below.refl _ _).alloc (Nat.le_refl _) _

set_option maxHeartbeats 1000000 in
theorem cbState_any (L : Loc) (cr : Nat) (r : Rules) (c : CB) (now : Int) (chs : List (Int × Int)) (w : World) (h : Sys w L cr r c now chs) (hlen : chs.length ≤ 1000000) (hw : Win c now) :
    Calls Try.prog 51 #[.pointer (some ⟨L.cb, 0, none⟩)] w fun e w' => e = .returned (.int .i64 (c.look now).state) ∧ Evo L r w cr w' (c.look now) now (chs ++ c.lookTold now) := by
  have HS := Lib.hid h
  have HW := Lib.hid hw
  obtain ⟨hc, hf⟩ := h.cb.cells
  have g0 := hc 0
  simp [nowV] at g0
  clear h hw hc hf
  go_enter Try.func51, Try.ntmps51
  go_wp2_with fail
  refine (now_any L cr now chs _ HS.out.bed HS.out.now0 HS.out.now1).mono ?_
  rintro e w1 ⟨rfl, hb1⟩
  have S1 := Lib.hid (HS.out.below hb1)
  have M1 := Lib.hid (show Mod [L.cb, L.rc, L.bk, L.bd, cr] w w1 from Mod.of_below hb1)
  clear hb1 g0
  go_wp2_with fail
  have S2 := Lib.hid (S1.out.alloc (Obj.cells #[Value.int IntKind.u64 (NS now), Value.int IntKind.i64 (SEC now), Value.pointer none] 118))
  have M2 := Lib.hid (M1.out.alloc (Obj.cells #[Value.int IntKind.u64 (NS now), Value.int IntKind.i64 (SEC now), Value.pointer none] 118))
  refine (look_any L cr r c now chs _ S2.out (by omega) HW.out).mono ?_
  rintro e w3 ⟨rfl, hev⟩
  have E3 := Lib.hid (Evo.after M2.out hev)
  clear hev
  go_wp2_with fail
  go_ret
  exact ⟨rfl, E3.out⟩

end Go.Proofs.Ytcjklacfoldaoaa
