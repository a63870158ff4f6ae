/- Contract of NewCircuitBreaker. Condition: the window does not roll. -/
import Derived.Test.YtcjklacfoldaoaaNewA
import Derived.Laws.EntriesVeiled
namespace Go.Proofs.Ytcjklacfoldaoaa
open Go.RowKit
attribute [local go_sem ↓] Go.wp_at_zero Go.wp_at_succ

def mostN (r : Rules) : Int := if r.most = 0 then 1 else r.most
def timN (r : Rules) : Int := if r.timeout ≤ 0 then 60000000000 else r.timeout
def intN (r : Rules) : Int := if r.interval ≤ 0 then 0 else r.interval

theorem trip_cells (rb : Nat) (r : Rules) : (tripRaw rb r).cells = #[tripRaw rb r] := by
  unfold tripRaw; repeat (first | rfl | split)
theorem good_cells (rb : Nat) (r : Rules) : (goodRaw rb r).cells = #[goodRaw rb r] := by
  unfold goodRaw; split <;> rfl
theorem out_cells (rb : Nat) (r : Rules) : (outRaw rb r).cells = #[outRaw rb r] := by
  unfold outRaw; split <;> rfl

theorem eql_nil (fn : Fn) (first cap : Array Value) (w : World) : (binOp .eql 79 (.func fn first cap) .nilFunc).run Try.prog w = .ok (.bool false) w := by kernel_rfl
theorem eql_nil0 (w : World) : (binOp .eql 79 .nilFunc .nilFunc).run Try.prog w = .ok (.bool true) w := by kernel_rfl
theorem eql_nilE (fn : Fn) (first cap : Array Value) (w : World) : (binOp .eql 81 (.func fn first cap) .nilFunc).run Try.prog w = .ok (.bool false) w := by kernel_rfl
theorem eql_nilE0 (w : World) : (binOp .eql 81 .nilFunc .nilFunc).run Try.prog w = .ok (.bool true) w := by kernel_rfl
def noTrip (r : Rules) : Bool := !(r.trip == 1 || r.trip == 2 || r.trip == 3 || r.trip == 4 || r.trip == 5)
def noGood (r : Rules) : Bool := !r.hasGood
def noOut (r : Rules) : Bool := !r.hasOut
theorem trip_cases (rb : Nat) (r : Rules) : (tripRaw rb r = .nilFunc ∧ noTrip r = true) ∨ ∃ g cap, tripRaw rb r = .func (.func g) #[] cap ∧ noTrip r = false := by
  unfold tripRaw noTrip
  by_cases h1 : r.trip = 1
  · right; rw [if_pos h1]; exact ⟨_, _, rfl, by simp [h1]⟩
  · rw [if_neg h1]
    by_cases h2 : r.trip = 2
    · right; rw [if_pos h2]; exact ⟨_, _, rfl, by simp [h2]⟩
    · rw [if_neg h2]
      by_cases h3 : r.trip = 3
      · right; rw [if_pos h3]; exact ⟨_, _, rfl, by simp [h3]⟩
      · rw [if_neg h3]
        by_cases h4 : r.trip = 4
        · right; rw [if_pos h4]; exact ⟨_, _, rfl, by simp [h4]⟩
        · rw [if_neg h4]
          by_cases h5 : r.trip = 5
          · right; rw [if_pos h5]; exact ⟨_, _, rfl, by simp [h5]⟩
          · left; rw [if_neg h5]; exact ⟨rfl, by simp [h1, h2, h3, h4, h5]⟩
theorem good_cases (rb : Nat) (r : Rules) : (goodRaw rb r = .nilFunc ∧ noGood r = true) ∨ ∃ g cap, goodRaw rb r = .func (.func g) #[] cap ∧ noGood r = false := by
  unfold goodRaw noGood
  by_cases h : r.hasGood = true
  · right; rw [if_pos h]; exact ⟨_, _, rfl, by simp [h]⟩
  · left; rw [if_neg h]; exact ⟨rfl, by simpa using h⟩
theorem out_cases (rb : Nat) (r : Rules) : (outRaw rb r = .nilFunc ∧ noOut r = true) ∨ ∃ g cap, outRaw rb r = .func (.func g) #[] cap ∧ noOut r = false := by
  unfold outRaw noOut
  by_cases h : r.hasOut = true
  · right; rw [if_pos h]; exact ⟨_, _, rfl, by simp [h]⟩
  · left; rw [if_neg h]; exact ⟨rfl, by simpa using h⟩

abbrev newL (n bd bp rb rs : Nat) : Loc := ⟨n + 1, n + 1 + 1 + 1, n + 1 + 1, bd, bp, rb, rs⟩
def freshCB (r : Rules) : CB := ⟨mostN r, intN r, intN r, timN r, 0, 0, ⟨Cnt.zero, 0, [Cnt.zero]⟩, T0, T0⟩

theorem freshCB_ok (r : Rules) (h1 : r.interval ≤ 1000000000000000000) (h2 : r.timeout ≤ 1000000000000000000) : (freshCB r).Ok := by
  have a1 : 0 ≤ intN r ∧ intN r ≤ 1000000000000000000 := by unfold intN; split <;> omega
  have a2 : 0 < timN r ∧ timN r ≤ 1000000000000000000 := by unfold timN; split <;> omega
  exact ⟨by simp [freshCB], by simp [freshCB], by simp [freshCB], by simp [freshCB], a1.1, a1.2, a1.1, a1.2, a2.1, a2.2, by simp [freshCB], by simp [freshCB]⟩

theorem tripV_raw (L : Loc) (r : Rules) (h : noTrip r = false) : tripV L r = tripRaw L.rb r := by
  unfold tripV tripRaw; unfold noTrip at h
  by_cases h1 : r.trip = 1
  · rw [if_pos h1, if_pos h1]
  · rw [if_neg h1, if_neg h1]
    by_cases h2 : r.trip = 2
    · rw [if_pos h2, if_pos h2]
    · rw [if_neg h2, if_neg h2]
      by_cases h3 : r.trip = 3
      · rw [if_pos h3, if_pos h3]
      · rw [if_neg h3, if_neg h3]
        by_cases h4 : r.trip = 4
        · rw [if_pos h4, if_pos h4]
        · rw [if_neg h4, if_neg h4]
          by_cases h5 : r.trip = 5
          · rw [if_pos h5, if_pos h5]
          · simp [h1, h2, h3, h4, h5] at h
theorem tripV_def (L : Loc) (r : Rules) (h : noTrip r = true) : tripV L r = .func (.func 69) #[] #[] := by
  unfold noTrip at h; simp at h
  unfold tripV; simp [h]
theorem goodV_raw (L : Loc) (r : Rules) (h : noGood r = false) : goodV L r = goodRaw L.rs r := by unfold noGood at h; simp at h; unfold goodV goodRaw; rw [if_pos h, if_pos h]
theorem goodV_def (L : Loc) (r : Rules) (h : noGood r = true) : goodV L r = .func (.func 70) #[] #[] := by unfold noGood at h; simp at h; unfold goodV; rw [if_neg (by simp [h])]
theorem outV_raw (L : Loc) (r : Rules) (h : noOut r = false) : outV L r = outRaw L.rs r := by unfold noOut at h; simp at h; unfold outV outRaw; rw [if_pos h, if_pos h]
theorem outV_def (L : Loc) (r : Rules) (h : noOut r = true) : outV L r = .func (.func 71) #[] #[] := by unfold noOut at h; simp at h; unfold outV; rw [if_neg (by simp [h])]
theorem tripV_cells (L : Loc) (r : Rules) : (tripV L r).cells = #[tripV L r] := by
  unfold tripV; repeat (first | rfl | split)
theorem goodV_cells (L : Loc) (r : Rules) : (goodV L r).cells = #[goodV L r] := by
  unfold goodV; split <;> rfl
theorem outV_cells (L : Loc) (r : Rules) : (outV L r).cells = #[outV L r] := by
  unfold outV; split <;> rfl
theorem newL_ok {n bd bp rb rs : Nat} (z1 : bd < n) (z2 : bp < n) (z3 : rb < n) (z4 : rs < n) (e1 : bd ≠ bp) (e2 : bd ≠ rb) (e3 : bd ≠ rs) : (newL n bd bp rb rs).Ok := by
  constructor <;> simp only [] <;> omega
theorem newL_free {n bd bp rb rs cr : Nat} (z : cr < n) (f1 : cr ≠ bd) (f2 : cr ≠ bp) (f3 : cr ≠ rb) (f4 : cr ≠ rs) : (newL n bd bp rb rs).Free cr := by
  constructor <;> simp only [] <;> omega


set_option maxRecDepth 100000 in
set_option maxHeartbeats 8000000 in
theorem newCb_one (bd bp rb rs cr : Nat) (now : Int) (chs : List (Int × Int)) (r : Rules) (w : World) (hb : r.bucket ≤ 0) (hbed : BedAt w (newL w.heap.size bd bp rb rs) cr now chs)
    (hrb : w.heap[rb]? = some (.cells (rulesArr r) 24 (0, 0))) (hrs : w.heap[rs]? = some (.cells (rulesArr r) 24 (0, 0))) (e1 : bd ≠ bp) (e2 : bd ≠ rb) (e3 : bd ≠ rs)
    (hcr : cr < w.heap.size) (f1 : cr ≠ bd) (f2 : cr ≠ bp) (f3 : cr ≠ rb) (f4 : cr ≠ rs) (rok : r.Ok) (h1 : r.interval ≤ 1000000000000000000) (h2 : r.timeout ≤ 1000000000000000000) (t0 : -3000000000000000000 ≤ now) (t1 : now ≤ 3000000000000000000) :
    Calls Try.prog 46 #[.agg #[Value.func (Fn.func 52) #[] #[Value.pointer (some ⟨bp, 0, none⟩)], Value.string r.name, Value.int IntKind.u32 r.most, Value.int IntKind.i64 r.interval, Value.int IntKind.i64 r.bucket, Value.int IntKind.i64 r.timeout, tripRaw rb r, Value.func (Fn.func 55) #[] #[Value.pointer (some ⟨bp, 0, none⟩)], goodRaw rs r, outRaw rs r]] w fun e w' => e = .returned (.pointer (some ⟨w.heap.size + 1, 0, none⟩)) ∧ Sys w' (newL w.heap.size bd bp rb rs) cr r ((freshCB r).newGen now) now chs ∧ Below w.heap.size w w' := by
  have ct := trip_cells
  have cg := good_cells
  have co := out_cells
  have vt := tripV_cells
  have vg := goodV_cells
  have vo := outV_cells
  have hbd : decide (r.bucket ≤ 0) = true := by simpa using hb
  have q79 := eql_nil
  have q790 := eql_nil0
  have q81 := eql_nilE
  have q810 := eql_nilE0
  have BED := Lib.hid hbed
  have RB := Lib.hid hrb
  have RS := Lib.hid hrs
  have z1 : bd < w.heap.size := by obtain ⟨bv, hbv, _⟩ := hbed.bd; exact size_of_heap hbv
  have z2 := size_of_heap hbed.bp
  have z3 := size_of_heap hrb
  have z4 := size_of_heap hrs
  clear hbed hrb hrs
  go_enter Try.func46, Try.ntmps46

  go_upto_if 23 with fail
  go_cut [] (fun wx => wx = ((w.alloc (Obj.cells #[Value.func (Fn.func 52) #[] #[Value.pointer (some ⟨bp, 0, none⟩)], Value.string r.name, Value.int IntKind.u32 r.most, Value.int IntKind.i64 r.interval, Value.int IntKind.i64 r.bucket, Value.int IntKind.i64 r.timeout, tripRaw rb r, Value.func (Fn.func 55) #[] #[Value.pointer (some ⟨bp, 0, none⟩)], goodRaw rs r, outRaw rs r] 83)).alloc (Obj.cells #[Value.func (Fn.func 52) #[] #[Value.pointer (some ⟨bp, 0, none⟩)], Value.string r.name, Value.int IntKind.u32 (mostN r), Value.int IntKind.i64 (0), Value.int IntKind.i64 (0), Value.int IntKind.i64 (0), Value.nilFunc, Value.nilFunc, Value.nilFunc, Value.func (Fn.func 55) #[] #[Value.pointer (some ⟨bp, 0, none⟩)], Value.int IntKind.i64 0, Value.int IntKind.u64 0, Value.pointer none, Value.int IntKind.u64 0, Value.int IntKind.i64 0, Value.pointer none, Value.int IntKind.u64 0, Value.int IntKind.i64 0, Value.pointer none] 123)))
  case first =>
    by_cases h : r.most = 0
    · have h' : (r.most == 0) = true := by simpa using h
      have hh := Lib.hid h
      clear h
      go_wp2_with fail
      go_meet
      unfold mostN; rw [if_pos hh.out]
    · have h' : (r.most == 0) = false := by simpa using h
      have hh := Lib.hid h
      clear h
      go_wp2_with fail
      go_meet
      unfold mostN; rw [if_neg hh.out]
  case rest =>
  subst hcut
  go_upto_if 34 with fail
  go_cut [4] (fun s4 wx => s4 = Value.int IntKind.i64 1 ∧ wx = ((w.alloc (Obj.cells #[Value.func (Fn.func 52) #[] #[Value.pointer (some ⟨bp, 0, none⟩)], Value.string r.name, Value.int IntKind.u32 r.most, Value.int IntKind.i64 r.interval, Value.int IntKind.i64 r.bucket, Value.int IntKind.i64 r.timeout, tripRaw rb r, Value.func (Fn.func 55) #[] #[Value.pointer (some ⟨bp, 0, none⟩)], goodRaw rs r, outRaw rs r] 83)).alloc (Obj.cells #[Value.func (Fn.func 52) #[] #[Value.pointer (some ⟨bp, 0, none⟩)], Value.string r.name, Value.int IntKind.u32 (mostN r), Value.int IntKind.i64 (intN r), Value.int IntKind.i64 (intN r), Value.int IntKind.i64 (0), Value.nilFunc, Value.nilFunc, Value.nilFunc, Value.func (Fn.func 55) #[] #[Value.pointer (some ⟨bp, 0, none⟩)], Value.int IntKind.i64 0, Value.int IntKind.u64 0, Value.pointer none, Value.int IntKind.u64 0, Value.int IntKind.i64 0, Value.pointer none, Value.int IntKind.u64 0, Value.int IntKind.i64 0, Value.pointer none] 123)))
  case first =>
    by_cases h : r.interval ≤ 0
    · have h' : decide (r.interval ≤ 0) = true := by simpa using h
      go_wp2_with fail
      go_meet
      unfold intN; rw [if_pos h]; exact ⟨rfl, rfl⟩
    · have h' : 0 < r.interval := by omega
      clear h
      go_wp2_with fail
      go_meet
      unfold intN; rw [if_neg (by omega)]; exact ⟨rfl, rfl⟩
  case rest =>
  obtain ⟨rfl, rfl⟩ := hcut
  go_upto_if 96 with (go_at_call 68; refine (rcNew_any 1 _ (by omega)).mono ?_; rintro e w2 ⟨rfl, rfl⟩)
  go_cut [] (fun wx => wx = ((((w.alloc (Obj.cells #[Value.func (Fn.func 52) #[] #[Value.pointer (some ⟨bp, 0, none⟩)], Value.string r.name, Value.int IntKind.u32 r.most, Value.int IntKind.i64 r.interval, Value.int IntKind.i64 r.bucket, Value.int IntKind.i64 r.timeout, tripRaw rb r, Value.func (Fn.func 55) #[] #[Value.pointer (some ⟨bp, 0, none⟩)], goodRaw rs r, outRaw rs r] 83)).alloc (Obj.cells #[Value.func (Fn.func 52) #[] #[Value.pointer (some ⟨bp, 0, none⟩)], Value.string r.name, Value.int IntKind.u32 (mostN r), Value.int IntKind.i64 (intN r), Value.int IntKind.i64 (intN r), Value.int IntKind.i64 (timN r), Value.nilFunc, Value.nilFunc, Value.nilFunc, Value.func (Fn.func 55) #[] #[Value.pointer (some ⟨bp, 0, none⟩)], Value.int IntKind.i64 0, Value.int IntKind.u64 0, Value.pointer (some ⟨w.heap.size + 1 + 1 + 1, 0, none⟩), Value.int IntKind.u64 0, Value.int IntKind.i64 0, Value.pointer none, Value.int IntKind.u64 0, Value.int IntKind.i64 0, Value.pointer none] 123))).alloc (Obj.cells (flat [Cnt.zero]).toArray 98)).alloc (Obj.cells #[Value.int IntKind.u32 0, Value.int IntKind.u32 0, Value.int IntKind.u32 0, Value.int IntKind.u32 0, Value.int IntKind.u32 0, Value.int IntKind.u32 0, Value.int IntKind.u64 0, Value.slice (some ⟨w.heap.size + 1 + 1, 0, none⟩) 1 1] 141))
  case first =>
    by_cases h : r.timeout ≤ 0
    · have h' : decide (r.timeout ≤ 0) = true := by simpa using h
      go_wp2_with fail
      go_meet
      unfold timN; rw [if_pos h]
    · have h' : 0 < r.timeout := by omega
      clear h
      go_wp2_with fail
      go_meet
      unfold timN; rw [if_neg (by omega)]
  case rest =>
  subst hcut
  go_upto_region 24 with fail
  go_cut [107] (fun s4 wx => s4 = Value.bool (noTrip r) ∧ wx = ((((w.alloc (Obj.cells #[Value.func (Fn.func 52) #[] #[Value.pointer (some ⟨bp, 0, none⟩)], Value.string r.name, Value.int IntKind.u32 r.most, Value.int IntKind.i64 r.interval, Value.int IntKind.i64 r.bucket, Value.int IntKind.i64 r.timeout, tripRaw rb r, Value.func (Fn.func 55) #[] #[Value.pointer (some ⟨bp, 0, none⟩)], goodRaw rs r, outRaw rs r] 83)).alloc (Obj.cells #[Value.func (Fn.func 52) #[] #[Value.pointer (some ⟨bp, 0, none⟩)], Value.string r.name, Value.int IntKind.u32 (mostN r), Value.int IntKind.i64 (intN r), Value.int IntKind.i64 (intN r), Value.int IntKind.i64 (timN r), Value.nilFunc, Value.nilFunc, Value.nilFunc, Value.func (Fn.func 55) #[] #[Value.pointer (some ⟨bp, 0, none⟩)], Value.int IntKind.i64 0, Value.int IntKind.u64 0, Value.pointer (some ⟨w.heap.size + 1 + 1 + 1, 0, none⟩), Value.int IntKind.u64 0, Value.int IntKind.i64 0, Value.pointer none, Value.int IntKind.u64 0, Value.int IntKind.i64 0, Value.pointer none] 123))).alloc (Obj.cells (flat [Cnt.zero]).toArray 98)).alloc (Obj.cells #[Value.int IntKind.u32 0, Value.int IntKind.u32 0, Value.int IntKind.u32 0, Value.int IntKind.u32 0, Value.int IntKind.u32 0, Value.int IntKind.u32 0, Value.int IntKind.u64 0, Value.slice (some ⟨w.heap.size + 1 + 1, 0, none⟩) 1 1] 141))
  case first =>
    rcases trip_cases rb r with ⟨h, h'⟩ | ⟨g, cap, h, h'⟩
    · go_wp2_with fail
      go_meet
      rw [h, h']; exact ⟨rfl, rfl⟩
    · go_wp2_with fail
      go_meet
      rw [h, h']; exact ⟨rfl, rfl⟩
  case rest =>
  obtain ⟨rfl, rfl⟩ := hcut
  go_upto_if 107 with fail
  go_cut [] (fun wx => wx = ((((w.alloc (Obj.cells #[Value.func (Fn.func 52) #[] #[Value.pointer (some ⟨bp, 0, none⟩)], Value.string r.name, Value.int IntKind.u32 r.most, Value.int IntKind.i64 r.interval, Value.int IntKind.i64 r.bucket, Value.int IntKind.i64 r.timeout, tripRaw rb r, Value.func (Fn.func 55) #[] #[Value.pointer (some ⟨bp, 0, none⟩)], goodRaw rs r, outRaw rs r] 83)).alloc (Obj.cells #[Value.func (Fn.func 52) #[] #[Value.pointer (some ⟨bp, 0, none⟩)], Value.string r.name, Value.int IntKind.u32 (mostN r), Value.int IntKind.i64 (intN r), Value.int IntKind.i64 (intN r), Value.int IntKind.i64 (timN r), tripV (newL w.heap.size bd bp rb rs) r, Value.nilFunc, Value.nilFunc, Value.func (Fn.func 55) #[] #[Value.pointer (some ⟨bp, 0, none⟩)], Value.int IntKind.i64 0, Value.int IntKind.u64 0, Value.pointer (some ⟨w.heap.size + 1 + 1 + 1, 0, none⟩), Value.int IntKind.u64 0, Value.int IntKind.i64 0, Value.pointer none, Value.int IntKind.u64 0, Value.int IntKind.i64 0, Value.pointer none] 123))).alloc (Obj.cells (flat [Cnt.zero]).toArray 98)).alloc (Obj.cells #[Value.int IntKind.u32 0, Value.int IntKind.u32 0, Value.int IntKind.u32 0, Value.int IntKind.u32 0, Value.int IntKind.u32 0, Value.int IntKind.u32 0, Value.int IntKind.u64 0, Value.slice (some ⟨w.heap.size + 1 + 1, 0, none⟩) 1 1] 141))
  case first =>
    rcases trip_cases rb r with ⟨h, h'⟩ | ⟨g, cap, h, h'⟩
    · rw [h']
      go_wp2_with fail
      go_meet
      rw [tripV_def _ _ h', h]
    · rw [h']
      go_wp2_with fail
      go_meet
      rw [tripV_raw _ _ h', h]
  case rest =>
  subst hcut
  go_upto_region 27 with fail
  go_cut [118] (fun s4 wx => s4 = Value.bool (noGood r) ∧ wx = ((((w.alloc (Obj.cells #[Value.func (Fn.func 52) #[] #[Value.pointer (some ⟨bp, 0, none⟩)], Value.string r.name, Value.int IntKind.u32 r.most, Value.int IntKind.i64 r.interval, Value.int IntKind.i64 r.bucket, Value.int IntKind.i64 r.timeout, tripRaw rb r, Value.func (Fn.func 55) #[] #[Value.pointer (some ⟨bp, 0, none⟩)], goodRaw rs r, outRaw rs r] 83)).alloc (Obj.cells #[Value.func (Fn.func 52) #[] #[Value.pointer (some ⟨bp, 0, none⟩)], Value.string r.name, Value.int IntKind.u32 (mostN r), Value.int IntKind.i64 (intN r), Value.int IntKind.i64 (intN r), Value.int IntKind.i64 (timN r), tripV (newL w.heap.size bd bp rb rs) r, Value.nilFunc, Value.nilFunc, Value.func (Fn.func 55) #[] #[Value.pointer (some ⟨bp, 0, none⟩)], Value.int IntKind.i64 0, Value.int IntKind.u64 0, Value.pointer (some ⟨w.heap.size + 1 + 1 + 1, 0, none⟩), Value.int IntKind.u64 0, Value.int IntKind.i64 0, Value.pointer none, Value.int IntKind.u64 0, Value.int IntKind.i64 0, Value.pointer none] 123))).alloc (Obj.cells (flat [Cnt.zero]).toArray 98)).alloc (Obj.cells #[Value.int IntKind.u32 0, Value.int IntKind.u32 0, Value.int IntKind.u32 0, Value.int IntKind.u32 0, Value.int IntKind.u32 0, Value.int IntKind.u32 0, Value.int IntKind.u64 0, Value.slice (some ⟨w.heap.size + 1 + 1, 0, none⟩) 1 1] 141))
  case first =>
    rcases good_cases rs r with ⟨h, h'⟩ | ⟨g, cap, h, h'⟩
    · go_wp2_with fail
      go_meet
      rw [h, h']; exact ⟨rfl, rfl⟩
    · go_wp2_with fail
      go_meet
      rw [h, h']; exact ⟨rfl, rfl⟩
  case rest =>
  obtain ⟨rfl, rfl⟩ := hcut
  go_upto_if 118 with fail
  go_cut [] (fun wx => wx = ((((w.alloc (Obj.cells #[Value.func (Fn.func 52) #[] #[Value.pointer (some ⟨bp, 0, none⟩)], Value.string r.name, Value.int IntKind.u32 r.most, Value.int IntKind.i64 r.interval, Value.int IntKind.i64 r.bucket, Value.int IntKind.i64 r.timeout, tripRaw rb r, Value.func (Fn.func 55) #[] #[Value.pointer (some ⟨bp, 0, none⟩)], goodRaw rs r, outRaw rs r] 83)).alloc (Obj.cells #[Value.func (Fn.func 52) #[] #[Value.pointer (some ⟨bp, 0, none⟩)], Value.string r.name, Value.int IntKind.u32 (mostN r), Value.int IntKind.i64 (intN r), Value.int IntKind.i64 (intN r), Value.int IntKind.i64 (timN r), tripV (newL w.heap.size bd bp rb rs) r, goodV (newL w.heap.size bd bp rb rs) r, Value.nilFunc, Value.func (Fn.func 55) #[] #[Value.pointer (some ⟨bp, 0, none⟩)], Value.int IntKind.i64 0, Value.int IntKind.u64 0, Value.pointer (some ⟨w.heap.size + 1 + 1 + 1, 0, none⟩), Value.int IntKind.u64 0, Value.int IntKind.i64 0, Value.pointer none, Value.int IntKind.u64 0, Value.int IntKind.i64 0, Value.pointer none] 123))).alloc (Obj.cells (flat [Cnt.zero]).toArray 98)).alloc (Obj.cells #[Value.int IntKind.u32 0, Value.int IntKind.u32 0, Value.int IntKind.u32 0, Value.int IntKind.u32 0, Value.int IntKind.u32 0, Value.int IntKind.u32 0, Value.int IntKind.u64 0, Value.slice (some ⟨w.heap.size + 1 + 1, 0, none⟩) 1 1] 141))
  case first =>
    rcases good_cases rs r with ⟨h, h'⟩ | ⟨g, cap, h, h'⟩
    · rw [h']
      go_wp2_with fail
      go_meet
      rw [goodV_def _ _ h', h]
    · rw [h']
      go_wp2_with fail
      go_meet
      rw [goodV_raw _ _ h', h]
  case rest =>
  subst hcut
  go_upto_region 30 with fail
  go_cut [129] (fun s4 wx => s4 = Value.bool (noOut r) ∧ wx = ((((w.alloc (Obj.cells #[Value.func (Fn.func 52) #[] #[Value.pointer (some ⟨bp, 0, none⟩)], Value.string r.name, Value.int IntKind.u32 r.most, Value.int IntKind.i64 r.interval, Value.int IntKind.i64 r.bucket, Value.int IntKind.i64 r.timeout, tripRaw rb r, Value.func (Fn.func 55) #[] #[Value.pointer (some ⟨bp, 0, none⟩)], goodRaw rs r, outRaw rs r] 83)).alloc (Obj.cells #[Value.func (Fn.func 52) #[] #[Value.pointer (some ⟨bp, 0, none⟩)], Value.string r.name, Value.int IntKind.u32 (mostN r), Value.int IntKind.i64 (intN r), Value.int IntKind.i64 (intN r), Value.int IntKind.i64 (timN r), tripV (newL w.heap.size bd bp rb rs) r, goodV (newL w.heap.size bd bp rb rs) r, Value.nilFunc, Value.func (Fn.func 55) #[] #[Value.pointer (some ⟨bp, 0, none⟩)], Value.int IntKind.i64 0, Value.int IntKind.u64 0, Value.pointer (some ⟨w.heap.size + 1 + 1 + 1, 0, none⟩), Value.int IntKind.u64 0, Value.int IntKind.i64 0, Value.pointer none, Value.int IntKind.u64 0, Value.int IntKind.i64 0, Value.pointer none] 123))).alloc (Obj.cells (flat [Cnt.zero]).toArray 98)).alloc (Obj.cells #[Value.int IntKind.u32 0, Value.int IntKind.u32 0, Value.int IntKind.u32 0, Value.int IntKind.u32 0, Value.int IntKind.u32 0, Value.int IntKind.u32 0, Value.int IntKind.u64 0, Value.slice (some ⟨w.heap.size + 1 + 1, 0, none⟩) 1 1] 141))
  case first =>
    rcases out_cases rs r with ⟨h, h'⟩ | ⟨g, cap, h, h'⟩
    · go_wp2_with fail
      go_meet
      rw [h, h']; exact ⟨rfl, rfl⟩
    · go_wp2_with fail
      go_meet
      rw [h, h']; exact ⟨rfl, rfl⟩
  case rest =>
  obtain ⟨rfl, rfl⟩ := hcut
  go_upto_if 129 with fail
  go_cut [] (fun wx => wx = ((((w.alloc (Obj.cells #[Value.func (Fn.func 52) #[] #[Value.pointer (some ⟨bp, 0, none⟩)], Value.string r.name, Value.int IntKind.u32 r.most, Value.int IntKind.i64 r.interval, Value.int IntKind.i64 r.bucket, Value.int IntKind.i64 r.timeout, tripRaw rb r, Value.func (Fn.func 55) #[] #[Value.pointer (some ⟨bp, 0, none⟩)], goodRaw rs r, outRaw rs r] 83)).alloc (Obj.cells #[Value.func (Fn.func 52) #[] #[Value.pointer (some ⟨bp, 0, none⟩)], Value.string r.name, Value.int IntKind.u32 (mostN r), Value.int IntKind.i64 (intN r), Value.int IntKind.i64 (intN r), Value.int IntKind.i64 (timN r), tripV (newL w.heap.size bd bp rb rs) r, goodV (newL w.heap.size bd bp rb rs) r, outV (newL w.heap.size bd bp rb rs) r, Value.func (Fn.func 55) #[] #[Value.pointer (some ⟨bp, 0, none⟩)], Value.int IntKind.i64 0, Value.int IntKind.u64 0, Value.pointer (some ⟨w.heap.size + 1 + 1 + 1, 0, none⟩), Value.int IntKind.u64 0, Value.int IntKind.i64 0, Value.pointer none, Value.int IntKind.u64 0, Value.int IntKind.i64 0, Value.pointer none] 123))).alloc (Obj.cells (flat [Cnt.zero]).toArray 98)).alloc (Obj.cells #[Value.int IntKind.u32 0, Value.int IntKind.u32 0, Value.int IntKind.u32 0, Value.int IntKind.u32 0, Value.int IntKind.u32 0, Value.int IntKind.u32 0, Value.int IntKind.u64 0, Value.slice (some ⟨w.heap.size + 1 + 1, 0, none⟩) 1 1] 141))
  case first =>
    rcases out_cases rs r with ⟨h, h'⟩ | ⟨g, cap, h, h'⟩
    · rw [h']
      go_wp2_with fail
      go_meet
      rw [outV_def _ _ h', h]
    · rw [h']
      go_wp2_with fail
      go_meet
      rw [outV_raw _ _ h', h]
  case rest =>
  subst hcut

  have M1 := Lib.hid (show Mod [] w (((((w.alloc (Obj.cells #[Value.func (Fn.func 52) #[] #[Value.pointer (some ⟨bp, 0, none⟩)], Value.string r.name, Value.int IntKind.u32 r.most, Value.int IntKind.i64 r.interval, Value.int IntKind.i64 r.bucket, Value.int IntKind.i64 r.timeout, tripRaw rb r, Value.func (Fn.func 55) #[] #[Value.pointer (some ⟨bp, 0, none⟩)], goodRaw rs r, outRaw rs r] 83)).alloc (Obj.cells #[Value.func (Fn.func 52) #[] #[Value.pointer (some ⟨bp, 0, none⟩)], Value.string r.name, Value.int IntKind.u32 (mostN r), Value.int IntKind.i64 (intN r), Value.int IntKind.i64 (intN r), Value.int IntKind.i64 (timN r), tripV (newL w.heap.size bd bp rb rs) r, goodV (newL w.heap.size bd bp rb rs) r, outV (newL w.heap.size bd bp rb rs) r, Value.func (Fn.func 55) #[] #[Value.pointer (some ⟨bp, 0, none⟩)], Value.int IntKind.i64 0, Value.int IntKind.u64 0, Value.pointer (some ⟨w.heap.size + 1 + 1 + 1, 0, none⟩), Value.int IntKind.u64 0, Value.int IntKind.i64 0, Value.pointer none, Value.int IntKind.u64 0, Value.int IntKind.i64 0, Value.pointer none] 123))).alloc (Obj.cells (flat [Cnt.zero]).toArray 98)).alloc (Obj.cells #[Value.int IntKind.u32 0, Value.int IntKind.u32 0, Value.int IntKind.u32 0, Value.int IntKind.u32 0, Value.int IntKind.u32 0, Value.int IntKind.u32 0, Value.int IntKind.u64 0, Value.slice (some ⟨w.heap.size + 1 + 1, 0, none⟩) 1 1] 141)) from ((((Mod.refl [] w).alloc _).alloc _).alloc _).alloc _)
  have C1 := Lib.hid (show CBat (((((w.alloc (Obj.cells #[Value.func (Fn.func 52) #[] #[Value.pointer (some ⟨bp, 0, none⟩)], Value.string r.name, Value.int IntKind.u32 r.most, Value.int IntKind.i64 r.interval, Value.int IntKind.i64 r.bucket, Value.int IntKind.i64 r.timeout, tripRaw rb r, Value.func (Fn.func 55) #[] #[Value.pointer (some ⟨bp, 0, none⟩)], goodRaw rs r, outRaw rs r] 83)).alloc (Obj.cells #[Value.func (Fn.func 52) #[] #[Value.pointer (some ⟨bp, 0, none⟩)], Value.string r.name, Value.int IntKind.u32 (mostN r), Value.int IntKind.i64 (intN r), Value.int IntKind.i64 (intN r), Value.int IntKind.i64 (timN r), tripV (newL w.heap.size bd bp rb rs) r, goodV (newL w.heap.size bd bp rb rs) r, outV (newL w.heap.size bd bp rb rs) r, Value.func (Fn.func 55) #[] #[Value.pointer (some ⟨bp, 0, none⟩)], Value.int IntKind.i64 0, Value.int IntKind.u64 0, Value.pointer (some ⟨w.heap.size + 1 + 1 + 1, 0, none⟩), Value.int IntKind.u64 0, Value.int IntKind.i64 0, Value.pointer none, Value.int IntKind.u64 0, Value.int IntKind.i64 0, Value.pointer none] 123))).alloc (Obj.cells (flat [Cnt.zero]).toArray 98)).alloc (Obj.cells #[Value.int IntKind.u32 0, Value.int IntKind.u32 0, Value.int IntKind.u32 0, Value.int IntKind.u32 0, Value.int IntKind.u32 0, Value.int IntKind.u32 0, Value.int IntKind.u64 0, Value.slice (some ⟨w.heap.size + 1 + 1, 0, none⟩) 1 1] 141)) (newL w.heap.size bd bp rb rs) r (freshCB r) from ⟨heap_alloc_lt (heap_alloc_lt (heap_alloc_at (by simp))), heap_alloc_at (by simp), heap_alloc_lt (heap_alloc_at (by simp))⟩)
  have N1 := Lib.hid (show (((((w.alloc (Obj.cells #[Value.func (Fn.func 52) #[] #[Value.pointer (some ⟨bp, 0, none⟩)], Value.string r.name, Value.int IntKind.u32 r.most, Value.int IntKind.i64 r.interval, Value.int IntKind.i64 r.bucket, Value.int IntKind.i64 r.timeout, tripRaw rb r, Value.func (Fn.func 55) #[] #[Value.pointer (some ⟨bp, 0, none⟩)], goodRaw rs r, outRaw rs r] 83)).alloc (Obj.cells #[Value.func (Fn.func 52) #[] #[Value.pointer (some ⟨bp, 0, none⟩)], Value.string r.name, Value.int IntKind.u32 (mostN r), Value.int IntKind.i64 (intN r), Value.int IntKind.i64 (intN r), Value.int IntKind.i64 (timN r), tripV (newL w.heap.size bd bp rb rs) r, goodV (newL w.heap.size bd bp rb rs) r, outV (newL w.heap.size bd bp rb rs) r, Value.func (Fn.func 55) #[] #[Value.pointer (some ⟨bp, 0, none⟩)], Value.int IntKind.i64 0, Value.int IntKind.u64 0, Value.pointer (some ⟨w.heap.size + 1 + 1 + 1, 0, none⟩), Value.int IntKind.u64 0, Value.int IntKind.i64 0, Value.pointer none, Value.int IntKind.u64 0, Value.int IntKind.i64 0, Value.pointer none] 123))).alloc (Obj.cells (flat [Cnt.zero]).toArray 98)).alloc (Obj.cells #[Value.int IntKind.u32 0, Value.int IntKind.u32 0, Value.int IntKind.u32 0, Value.int IntKind.u32 0, Value.int IntKind.u32 0, Value.int IntKind.u32 0, Value.int IntKind.u64 0, Value.slice (some ⟨w.heap.size + 1 + 1, 0, none⟩) 1 1] 141)).heap.size = w.heap.size + 4 by simp)
  have c0 := (C1.out.cells).1 0
  simp only [nowV] at c0
  simp at c0
  have B1 := Lib.hid (BED.out.keep (S := []) M1.out (by simp) (by simp) (by simp))
  have LK := Lib.hid (newL_ok z1 z2 z3 z4 e1 e2 e3)
  have LF := Lib.hid (newL_free hcr f1 f2 f3 f4)
  have S1 := Lib.hid (show Sys (((((w.alloc (Obj.cells #[Value.func (Fn.func 52) #[] #[Value.pointer (some ⟨bp, 0, none⟩)], Value.string r.name, Value.int IntKind.u32 r.most, Value.int IntKind.i64 r.interval, Value.int IntKind.i64 r.bucket, Value.int IntKind.i64 r.timeout, tripRaw rb r, Value.func (Fn.func 55) #[] #[Value.pointer (some ⟨bp, 0, none⟩)], goodRaw rs r, outRaw rs r] 83)).alloc (Obj.cells #[Value.func (Fn.func 52) #[] #[Value.pointer (some ⟨bp, 0, none⟩)], Value.string r.name, Value.int IntKind.u32 (mostN r), Value.int IntKind.i64 (intN r), Value.int IntKind.i64 (intN r), Value.int IntKind.i64 (timN r), tripV (newL w.heap.size bd bp rb rs) r, goodV (newL w.heap.size bd bp rb rs) r, outV (newL w.heap.size bd bp rb rs) r, Value.func (Fn.func 55) #[] #[Value.pointer (some ⟨bp, 0, none⟩)], Value.int IntKind.i64 0, Value.int IntKind.u64 0, Value.pointer (some ⟨w.heap.size + 1 + 1 + 1, 0, none⟩), Value.int IntKind.u64 0, Value.int IntKind.i64 0, Value.pointer none, Value.int IntKind.u64 0, Value.int IntKind.i64 0, Value.pointer none] 123))).alloc (Obj.cells (flat [Cnt.zero]).toArray 98)).alloc (Obj.cells #[Value.int IntKind.u32 0, Value.int IntKind.u32 0, Value.int IntKind.u32 0, Value.int IntKind.u32 0, Value.int IntKind.u32 0, Value.int IntKind.u32 0, Value.int IntKind.u64 0, Value.slice (some ⟨w.heap.size + 1 + 1, 0, none⟩) 1 1] 141)) (newL w.heap.size bd bp rb rs) cr r (freshCB r) now chs from ⟨C1.out, B1.out, M1.out.heap RB.out (by simp), M1.out.heap RS.out (by simp), LK.out, rok, freshCB_ok r h1 h2, t0, t1, Nat.lt_of_lt_of_le hcr M1.out.size, LF.out⟩)
  clear C1 B1
  generalize hW : (((((w.alloc (Obj.cells #[Value.func (Fn.func 52) #[] #[Value.pointer (some ⟨bp, 0, none⟩)], Value.string r.name, Value.int IntKind.u32 r.most, Value.int IntKind.i64 r.interval, Value.int IntKind.i64 r.bucket, Value.int IntKind.i64 r.timeout, tripRaw rb r, Value.func (Fn.func 55) #[] #[Value.pointer (some ⟨bp, 0, none⟩)], goodRaw rs r, outRaw rs r] 83)).alloc (Obj.cells #[Value.func (Fn.func 52) #[] #[Value.pointer (some ⟨bp, 0, none⟩)], Value.string r.name, Value.int IntKind.u32 (mostN r), Value.int IntKind.i64 (intN r), Value.int IntKind.i64 (intN r), Value.int IntKind.i64 (timN r), tripV (newL w.heap.size bd bp rb rs) r, goodV (newL w.heap.size bd bp rb rs) r, outV (newL w.heap.size bd bp rb rs) r, Value.func (Fn.func 55) #[] #[Value.pointer (some ⟨bp, 0, none⟩)], Value.int IntKind.i64 0, Value.int IntKind.u64 0, Value.pointer (some ⟨w.heap.size + 1 + 1 + 1, 0, none⟩), Value.int IntKind.u64 0, Value.int IntKind.i64 0, Value.pointer none, Value.int IntKind.u64 0, Value.int IntKind.i64 0, Value.pointer none] 123))).alloc (Obj.cells (flat [Cnt.zero]).toArray 98)).alloc (Obj.cells #[Value.int IntKind.u32 0, Value.int IntKind.u32 0, Value.int IntKind.u32 0, Value.int IntKind.u32 0, Value.int IntKind.u32 0, Value.int IntKind.u32 0, Value.int IntKind.u64 0, Value.slice (some ⟨w.heap.size + 1 + 1, 0, none⟩) 1 1] 141)) = W1 at *
  clear hW
  go_wp2_with fail
  refine (now_any (newL w.heap.size bd bp rb rs) cr now chs _ S1.out.bed t0 t1).mono ?_
  rintro e w5 ⟨rfl, hb5⟩
  have S5 := Lib.hid (S1.out.below hb5)
  have M5 := Lib.hid (M1.out.trans (Mod.of_below hb5))
  clear hb5
  go_wp2_with fail
  refine (newGen_any (newL w.heap.size bd bp rb rs) r (freshCB r) now _ S5.out.cb LK.out S5.out.ok t0 t1).mono ?_
  rintro e w6 ⟨rfl, hc6, hm6⟩
  have S6 := Lib.hid (S5.out.withCb hc6 (CB.newGen_ok S5.out.ok now) hm6)
  have M6 := Lib.hid (show Below w.heap.size w w6 from (M5.out.mono (S' := [w.heap.size + 1, w.heap.size + 1 + 1 + 1, w.heap.size + 1 + 1]) (by simp)).trans hm6 |>.below_of (Nat.le_refl _) (by simp; omega))
  clear hc6 hm6
  go_wp2_with fail
  go_ret
  exact ⟨rfl, S6.out, M6.out⟩

end Go.Proofs.Ytcjklacfoldaoaa

