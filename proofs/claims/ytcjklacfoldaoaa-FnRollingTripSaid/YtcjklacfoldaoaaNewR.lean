/- Contract of NewCircuitBreaker for a window of buckets. Condition: not too many of them. -/
import Derived.Test.YtcjklacfoldaoaaNewC
namespace Go.Proofs.Ytcjklacfoldaoaa
open Go.RowKit
attribute [local go_sem ↓] Go.wp_at_zero Go.wp_at_succ

/-- Rules whose window has N buckets. -/
structure Buck (r : Rules) (N : Nat) : Prop where
  i0 : 0 < r.interval
  b0 : 0 < r.bucket
  sum : r.interval + r.bucket ≤ 1000000000000000000
  n0 : 1 ≤ N
  n1 : N ≤ 1000
  lo : ((N : Int) - 1) * r.bucket < r.interval
  hi : r.interval ≤ (N : Int) * r.bucket
theorem Buck.walk {r : Rules} {N : Nat} (h : Buck r N) : IntKind.i64.wrap (r.interval + r.bucket) = r.interval + r.bucket ∧ IntKind.i64.wrap (r.interval + r.bucket - 1) = r.interval + r.bucket - 1 ∧
    (r.interval + r.bucket - 1).tdiv r.bucket = (N : Int) ∧ IntKind.i64.wrap ((N : Int) * r.bucket) = (N : Int) * r.bucket ∧ ((N : Int) * r.bucket).tdiv r.bucket = (N : Int) ∧ ¬ r.bucket = 0 ∧ IntKind.i64.wrap (N : Int) = (N : Int) := by
  have a := h.i0
  have b := h.b0
  have c := h.sum
  have d := h.n0
  have e := h.lo
  have f := h.hi
  have g : ((N : Int) - 1) * r.bucket = (N : Int) * r.bucket - r.bucket := by rw [Int.sub_mul, Int.one_mul]
  rw [g] at e
  have w : ∀ n : Int, 0 ≤ n → n ≤ 2000000000000000000 → IntKind.i64.wrap n = n := by
    intro n h0 h1
    simp [IntKind.wrap, IntKind.signed, IntKind.bits]
    omega
  have n1 := h.n1
  refine ⟨w _ (by omega) (by omega), w _ (by omega) (by omega), ?_, w _ (by omega) (by omega), ?_, by omega, w _ (by omega) (by omega)⟩
  · rw [Int.tdiv_eq_ediv_of_nonneg (by omega)]
    exact Int.le_antisymm (Int.lt_add_one_iff.1 (Int.ediv_lt_of_lt_mul (by omega) (by rw [Int.add_mul, Int.one_mul]; omega))) (Int.le_ediv_of_mul_le (by omega) (by omega))
  · rw [Int.tdiv_eq_ediv_of_nonneg (by omega)]
    exact Int.mul_ediv_cancel _ (by omega)

theorem drew_drewN (w : World) (n : Nat) : w.drew.drewN n = w.drewN (1 + n) := by
  show (w.drewN 1).drewN n = _
  rw [World.drewN_drewN]
def freshR (r : Rules) (N : Nat) : CB := ⟨mostN r, (N : Int) * r.bucket, r.bucket, timN r, 0, 0, ⟨Cnt.zero, 0, List.replicate N Cnt.zero⟩, T0, T0⟩
theorem freshR_ok (r : Rules) (N : Nat) (h : Buck r N) (h2 : r.timeout ≤ 1000000000000000000) : (freshR r N).Ok := by
  have a2 : 0 < timN r ∧ timN r ≤ 1000000000000000000 := by unfold timN; split <;> omega
  have b := h.b0
  have c := h.sum
  have i := h.i0
  have n0 := h.n0
  have n1 := h.n1
  have e := h.lo
  have g : ((N : Int) - 1) * r.bucket = (N : Int) * r.bucket - r.bucket := by rw [Int.sub_mul, Int.one_mul]
  rw [g] at e
  have f := h.hi
  exact ⟨by simp [freshR]; omega, by simp [freshR]; omega, by simp [freshR], by simp [freshR], by simp only [freshR]; omega, by simp only [freshR]; omega, by simp only [freshR]; omega, by simp only [freshR]; omega, a2.1, a2.2, by simp [freshR], by simp [freshR]⟩


set_option maxRecDepth 100000 in
set_option maxHeartbeats 8000000 in
theorem newCb_roll (bd bp rb rs cr : Nat) (now : Int) (chs : List (Int × Int)) (r : Rules) (N : Nat) (w : World) (hN : Buck r N) (hbed : BedAt w (newL w.heap.size bd bp rb rs) cr now chs)
    (hrb : w.heap[rb]? = some (.cells (rulesArr r) 24 (0, 0))) (hrs : w.heap[rs]? = some (.cells (rulesArr r) 24 (0, 0))) (e1 : bd ≠ bp) (e2 : bd ≠ rb) (e3 : bd ≠ rs)
    (hcr : cr < w.heap.size) (f1 : cr ≠ bd) (f2 : cr ≠ bp) (f3 : cr ≠ rb) (f4 : cr ≠ rs) (rok : r.Ok) (h2 : r.timeout ≤ 1000000000000000000) (t0 : -3000000000000000000 ≤ now) (t1 : now ≤ 3000000000000000000) :
    Calls Try.prog 46 #[.agg #[Value.func (Fn.func 52) #[] #[Value.pointer (some ⟨bp, 0, none⟩)], Value.string r.name, Value.int IntKind.u32 r.most, Value.int IntKind.i64 r.interval, Value.int IntKind.i64 r.bucket, Value.int IntKind.i64 r.timeout, tripRaw rb r, Value.func (Fn.func 55) #[] #[Value.pointer (some ⟨bp, 0, none⟩)], goodRaw rs r, outRaw rs r]] w fun e w' => e = .returned (.pointer (some ⟨w.heap.size + 1, 0, none⟩)) ∧ Sys w' (newL w.heap.size bd bp rb rs) cr r ((freshR r N).newGen now) now chs ∧ Below w.heap.size w w' := by
  have ct := trip_cells
  have cg := good_cells
  have co := out_cells
  have vt := tripV_cells
  have vg := goodV_cells
  have vo := outV_cells
  have hbd : decide (r.bucket ≤ 0) = false := by have := hN.b0; simp; omega
  have hid : decide (r.interval ≤ 0) = false := by have := hN.i0; simp; omega
  obtain ⟨d1, d2, d3, d4, d5, d6, d7⟩ := hN.walk
  have hn1 := hN.n1
  have q79 := eql_nil
  have q790 := eql_nil0
  have q81 := eql_nilE
  have q810 := eql_nilE0
  have BED := Lib.hid hbed
  have RB := Lib.hid hrb
  have RS := Lib.hid hrs
  have z1 : bd < w.heap.size := by obtain ⟨bv, hbv, _⟩ := hbed.bd; exact size_of_heap hbv
  have z2 := size_of_heap hbed.bp
  have z3 := size_of_heap hrb
  have z4 := size_of_heap hrs
  clear hbed hrb hrs
  go_enter Try.func46, Try.ntmps46

  go_upto_if 23 with fail
  go_cut [] (fun wx => wx = ((w.alloc (Obj.cells #[Value.func (Fn.func 52) #[] #[Value.pointer (some ⟨bp, 0, none⟩)], Value.string r.name, Value.int IntKind.u32 r.most, Value.int IntKind.i64 r.interval, Value.int IntKind.i64 r.bucket, Value.int IntKind.i64 r.timeout, tripRaw rb r, Value.func (Fn.func 55) #[] #[Value.pointer (some ⟨bp, 0, none⟩)], goodRaw rs r, outRaw rs r] 83)).alloc (Obj.cells #[Value.func (Fn.func 52) #[] #[Value.pointer (some ⟨bp, 0, none⟩)], Value.string r.name, Value.int IntKind.u32 (mostN r), Value.int IntKind.i64 (0), Value.int IntKind.i64 (0), Value.int IntKind.i64 (0), Value.nilFunc, Value.nilFunc, Value.nilFunc, Value.func (Fn.func 55) #[] #[Value.pointer (some ⟨bp, 0, none⟩)], Value.int IntKind.i64 0, Value.int IntKind.u64 0, Value.pointer none, Value.int IntKind.u64 0, Value.int IntKind.i64 0, Value.pointer none, Value.int IntKind.u64 0, Value.int IntKind.i64 0, Value.pointer none] 123)))
  case first =>
    by_cases h : r.most = 0
    · have h' : (r.most == 0) = true := by simpa using h
      have hh := Lib.hid h
      clear h
      go_wp2_with fail
      go_meet
      unfold mostN; rw [if_pos hh.out]
    · have h' : (r.most == 0) = false := by simpa using h
      have hh := Lib.hid h
      clear h
      go_wp2_with fail
      go_meet
      unfold mostN; rw [if_neg hh.out]
  case rest =>
  subst hcut
  go_upto_if 34 with fail
  go_cut [4] (fun s4 wx => s4 = Value.int IntKind.i64 (N : Int) ∧ ∃ n, wx = (((w.drewN n).alloc (Obj.cells #[Value.func (Fn.func 52) #[] #[Value.pointer (some ⟨bp, 0, none⟩)], Value.string r.name, Value.int IntKind.u32 r.most, Value.int IntKind.i64 r.interval, Value.int IntKind.i64 r.bucket, Value.int IntKind.i64 r.timeout, tripRaw rb r, Value.func (Fn.func 55) #[] #[Value.pointer (some ⟨bp, 0, none⟩)], goodRaw rs r, outRaw rs r] 83)).alloc (Obj.cells #[Value.func (Fn.func 52) #[] #[Value.pointer (some ⟨bp, 0, none⟩)], Value.string r.name, Value.int IntKind.u32 (mostN r), Value.int IntKind.i64 ((N : Int) * r.bucket), Value.int IntKind.i64 (r.bucket), Value.int IntKind.i64 (0), Value.nilFunc, Value.nilFunc, Value.nilFunc, Value.func (Fn.func 55) #[] #[Value.pointer (some ⟨bp, 0, none⟩)], Value.int IntKind.i64 0, Value.int IntKind.u64 0, Value.pointer none, Value.int IntKind.u64 0, Value.int IntKind.i64 0, Value.pointer none, Value.int IntKind.u64 0, Value.int IntKind.i64 0, Value.pointer none] 123)))
  case first =>
    go_wp2_with fail
    go_region
    go_wp2_with fail
    go_quiet (fail)
    go_wp2_with fail
    go_meet
    exact ⟨rfl, 1 + nq, drew_drewN _ _⟩
  case rest =>
  obtain ⟨rfl, n, rfl⟩ := hcut
  have HBW := Lib.hid (show Below w.heap.size w (w.drewN n) from ⟨rfl, rfl, rfl, Nat.le_refl _, fun _ _ => rfl⟩)
  have HZ := Lib.hid (show (w.drewN n).heap.size = w.heap.size from rfl)
  rw [show w.heap.size = (w.drewN n).heap.size from rfl] at z1 z2 z3 z4 hcr ⊢
  have BED2 := Lib.hid (show BedAt (w.drewN n) (newL (w.drewN n).heap.size bd bp rb rs) cr now chs from BED.out.keep (S := []) ((Mod.refl [] w).drewN n) (by simp) (by simp) (by simp))
  have RB2 := Lib.hid (show (w.drewN n).heap[rb]? = _ from RB.out)
  have RS2 := Lib.hid (show (w.drewN n).heap[rs]? = _ from RS.out)
  clear BED RB RS
  generalize w.drewN n = w0 at *
  go_upto_if 96 with (go_at_call 68; refine (rcNew_any N _ (by omega)).mono ?_; rintro e w2 ⟨rfl, rfl⟩)
  go_cut [] (fun wx => wx = ((((w0.alloc (Obj.cells #[Value.func (Fn.func 52) #[] #[Value.pointer (some ⟨bp, 0, none⟩)], Value.string r.name, Value.int IntKind.u32 r.most, Value.int IntKind.i64 r.interval, Value.int IntKind.i64 r.bucket, Value.int IntKind.i64 r.timeout, tripRaw rb r, Value.func (Fn.func 55) #[] #[Value.pointer (some ⟨bp, 0, none⟩)], goodRaw rs r, outRaw rs r] 83)).alloc (Obj.cells #[Value.func (Fn.func 52) #[] #[Value.pointer (some ⟨bp, 0, none⟩)], Value.string r.name, Value.int IntKind.u32 (mostN r), Value.int IntKind.i64 ((N : Int) * r.bucket), Value.int IntKind.i64 (r.bucket), Value.int IntKind.i64 (timN r), Value.nilFunc, Value.nilFunc, Value.nilFunc, Value.func (Fn.func 55) #[] #[Value.pointer (some ⟨bp, 0, none⟩)], Value.int IntKind.i64 0, Value.int IntKind.u64 0, Value.pointer (some ⟨w0.heap.size + 1 + 1 + 1, 0, none⟩), Value.int IntKind.u64 0, Value.int IntKind.i64 0, Value.pointer none, Value.int IntKind.u64 0, Value.int IntKind.i64 0, Value.pointer none] 123))).alloc (Obj.cells (flat (List.replicate N Cnt.zero)).toArray 98)).alloc (Obj.cells #[Value.int IntKind.u32 0, Value.int IntKind.u32 0, Value.int IntKind.u32 0, Value.int IntKind.u32 0, Value.int IntKind.u32 0, Value.int IntKind.u32 0, Value.int IntKind.u64 0, Value.slice (some ⟨w0.heap.size + 1 + 1, 0, none⟩) N N] 141))
  case first =>
    by_cases h : r.timeout ≤ 0
    · have h' : decide (r.timeout ≤ 0) = true := by simpa using h
      go_wp2_with fail
      go_meet
      unfold timN; rw [if_pos h]
    · have h' : 0 < r.timeout := by omega
      clear h
      go_wp2_with fail
      go_meet
      unfold timN; rw [if_neg (by omega)]
  case rest =>
  subst hcut
  go_upto_region 24 with fail
  go_cut [107] (fun s4 wx => s4 = Value.bool (noTrip r) ∧ wx = ((((w0.alloc (Obj.cells #[Value.func (Fn.func 52) #[] #[Value.pointer (some ⟨bp, 0, none⟩)], Value.string r.name, Value.int IntKind.u32 r.most, Value.int IntKind.i64 r.interval, Value.int IntKind.i64 r.bucket, Value.int IntKind.i64 r.timeout, tripRaw rb r, Value.func (Fn.func 55) #[] #[Value.pointer (some ⟨bp, 0, none⟩)], goodRaw rs r, outRaw rs r] 83)).alloc (Obj.cells #[Value.func (Fn.func 52) #[] #[Value.pointer (some ⟨bp, 0, none⟩)], Value.string r.name, Value.int IntKind.u32 (mostN r), Value.int IntKind.i64 ((N : Int) * r.bucket), Value.int IntKind.i64 (r.bucket), Value.int IntKind.i64 (timN r), Value.nilFunc, Value.nilFunc, Value.nilFunc, Value.func (Fn.func 55) #[] #[Value.pointer (some ⟨bp, 0, none⟩)], Value.int IntKind.i64 0, Value.int IntKind.u64 0, Value.pointer (some ⟨w0.heap.size + 1 + 1 + 1, 0, none⟩), Value.int IntKind.u64 0, Value.int IntKind.i64 0, Value.pointer none, Value.int IntKind.u64 0, Value.int IntKind.i64 0, Value.pointer none] 123))).alloc (Obj.cells (flat (List.replicate N Cnt.zero)).toArray 98)).alloc (Obj.cells #[Value.int IntKind.u32 0, Value.int IntKind.u32 0, Value.int IntKind.u32 0, Value.int IntKind.u32 0, Value.int IntKind.u32 0, Value.int IntKind.u32 0, Value.int IntKind.u64 0, Value.slice (some ⟨w0.heap.size + 1 + 1, 0, none⟩) N N] 141))
  case first =>
    rcases trip_cases rb r with ⟨h, h'⟩ | ⟨g, cap, h, h'⟩
    · go_wp2_with fail
      go_meet
      rw [h, h']; exact ⟨rfl, rfl⟩
    · go_wp2_with fail
      go_meet
      rw [h, h']; exact ⟨rfl, rfl⟩
  case rest =>
  obtain ⟨rfl, rfl⟩ := hcut
  go_upto_if 107 with fail
  go_cut [] (fun wx => wx = ((((w0.alloc (Obj.cells #[Value.func (Fn.func 52) #[] #[Value.pointer (some ⟨bp, 0, none⟩)], Value.string r.name, Value.int IntKind.u32 r.most, Value.int IntKind.i64 r.interval, Value.int IntKind.i64 r.bucket, Value.int IntKind.i64 r.timeout, tripRaw rb r, Value.func (Fn.func 55) #[] #[Value.pointer (some ⟨bp, 0, none⟩)], goodRaw rs r, outRaw rs r] 83)).alloc (Obj.cells #[Value.func (Fn.func 52) #[] #[Value.pointer (some ⟨bp, 0, none⟩)], Value.string r.name, Value.int IntKind.u32 (mostN r), Value.int IntKind.i64 ((N : Int) * r.bucket), Value.int IntKind.i64 (r.bucket), Value.int IntKind.i64 (timN r), tripV (newL w0.heap.size bd bp rb rs) r, Value.nilFunc, Value.nilFunc, Value.func (Fn.func 55) #[] #[Value.pointer (some ⟨bp, 0, none⟩)], Value.int IntKind.i64 0, Value.int IntKind.u64 0, Value.pointer (some ⟨w0.heap.size + 1 + 1 + 1, 0, none⟩), Value.int IntKind.u64 0, Value.int IntKind.i64 0, Value.pointer none, Value.int IntKind.u64 0, Value.int IntKind.i64 0, Value.pointer none] 123))).alloc (Obj.cells (flat (List.replicate N Cnt.zero)).toArray 98)).alloc (Obj.cells #[Value.int IntKind.u32 0, Value.int IntKind.u32 0, Value.int IntKind.u32 0, Value.int IntKind.u32 0, Value.int IntKind.u32 0, Value.int IntKind.u32 0, Value.int IntKind.u64 0, Value.slice (some ⟨w0.heap.size + 1 + 1, 0, none⟩) N N] 141))
  case first =>
    rcases trip_cases rb r with ⟨h, h'⟩ | ⟨g, cap, h, h'⟩
    · rw [h']
      go_wp2_with fail
      go_meet
      rw [tripV_def _ _ h', h]
    · rw [h']
      go_wp2_with fail
      go_meet
      rw [tripV_raw _ _ h', h]
  case rest =>
  subst hcut
  go_upto_region 27 with fail
  go_cut [118] (fun s4 wx => s4 = Value.bool (noGood r) ∧ wx = ((((w0.alloc (Obj.cells #[Value.func (Fn.func 52) #[] #[Value.pointer (some ⟨bp, 0, none⟩)], Value.string r.name, Value.int IntKind.u32 r.most, Value.int IntKind.i64 r.interval, Value.int IntKind.i64 r.bucket, Value.int IntKind.i64 r.timeout, tripRaw rb r, Value.func (Fn.func 55) #[] #[Value.pointer (some ⟨bp, 0, none⟩)], goodRaw rs r, outRaw rs r] 83)).alloc (Obj.cells #[Value.func (Fn.func 52) #[] #[Value.pointer (some ⟨bp, 0, none⟩)], Value.string r.name, Value.int IntKind.u32 (mostN r), Value.int IntKind.i64 ((N : Int) * r.bucket), Value.int IntKind.i64 (r.bucket), Value.int IntKind.i64 (timN r), tripV (newL w0.heap.size bd bp rb rs) r, Value.nilFunc, Value.nilFunc, Value.func (Fn.func 55) #[] #[Value.pointer (some ⟨bp, 0, none⟩)], Value.int IntKind.i64 0, Value.int IntKind.u64 0, Value.pointer (some ⟨w0.heap.size + 1 + 1 + 1, 0, none⟩), Value.int IntKind.u64 0, Value.int IntKind.i64 0, Value.pointer none, Value.int IntKind.u64 0, Value.int IntKind.i64 0, Value.pointer none] 123))).alloc (Obj.cells (flat (List.replicate N Cnt.zero)).toArray 98)).alloc (Obj.cells #[Value.int IntKind.u32 0, Value.int IntKind.u32 0, Value.int IntKind.u32 0, Value.int IntKind.u32 0, Value.int IntKind.u32 0, Value.int IntKind.u32 0, Value.int IntKind.u64 0, Value.slice (some ⟨w0.heap.size + 1 + 1, 0, none⟩) N N] 141))
  case first =>
    rcases good_cases rs r with ⟨h, h'⟩ | ⟨g, cap, h, h'⟩
    · go_wp2_with fail
      go_meet
      rw [h, h']; exact ⟨rfl, rfl⟩
    · go_wp2_with fail
      go_meet
      rw [h, h']; exact ⟨rfl, rfl⟩
  case rest =>
  obtain ⟨rfl, rfl⟩ := hcut
  go_upto_if 118 with fail
  go_cut [] (fun wx => wx = ((((w0.alloc (Obj.cells #[Value.func (Fn.func 52) #[] #[Value.pointer (some ⟨bp, 0, none⟩)], Value.string r.name, Value.int IntKind.u32 r.most, Value.int IntKind.i64 r.interval, Value.int IntKind.i64 r.bucket, Value.int IntKind.i64 r.timeout, tripRaw rb r, Value.func (Fn.func 55) #[] #[Value.pointer (some ⟨bp, 0, none⟩)], goodRaw rs r, outRaw rs r] 83)).alloc (Obj.cells #[Value.func (Fn.func 52) #[] #[Value.pointer (some ⟨bp, 0, none⟩)], Value.string r.name, Value.int IntKind.u32 (mostN r), Value.int IntKind.i64 ((N : Int) * r.bucket), Value.int IntKind.i64 (r.bucket), Value.int IntKind.i64 (timN r), tripV (newL w0.heap.size bd bp rb rs) r, goodV (newL w0.heap.size bd bp rb rs) r, Value.nilFunc, Value.func (Fn.func 55) #[] #[Value.pointer (some ⟨bp, 0, none⟩)], Value.int IntKind.i64 0, Value.int IntKind.u64 0, Value.pointer (some ⟨w0.heap.size + 1 + 1 + 1, 0, none⟩), Value.int IntKind.u64 0, Value.int IntKind.i64 0, Value.pointer none, Value.int IntKind.u64 0, Value.int IntKind.i64 0, Value.pointer none] 123))).alloc (Obj.cells (flat (List.replicate N Cnt.zero)).toArray 98)).alloc (Obj.cells #[Value.int IntKind.u32 0, Value.int IntKind.u32 0, Value.int IntKind.u32 0, Value.int IntKind.u32 0, Value.int IntKind.u32 0, Value.int IntKind.u32 0, Value.int IntKind.u64 0, Value.slice (some ⟨w0.heap.size + 1 + 1, 0, none⟩) N N] 141))
  case first =>
    rcases good_cases rs r with ⟨h, h'⟩ | ⟨g, cap, h, h'⟩
    · rw [h']
      go_wp2_with fail
      go_meet
      rw [goodV_def _ _ h', h]
    · rw [h']
      go_wp2_with fail
      go_meet
      rw [goodV_raw _ _ h', h]
  case rest =>
  subst hcut
  go_upto_region 30 with fail
  go_cut [129] (fun s4 wx => s4 = Value.bool (noOut r) ∧ wx = ((((w0.alloc (Obj.cells #[Value.func (Fn.func 52) #[] #[Value.pointer (some ⟨bp, 0, none⟩)], Value.string r.name, Value.int IntKind.u32 r.most, Value.int IntKind.i64 r.interval, Value.int IntKind.i64 r.bucket, Value.int IntKind.i64 r.timeout, tripRaw rb r, Value.func (Fn.func 55) #[] #[Value.pointer (some ⟨bp, 0, none⟩)], goodRaw rs r, outRaw rs r] 83)).alloc (Obj.cells #[Value.func (Fn.func 52) #[] #[Value.pointer (some ⟨bp, 0, none⟩)], Value.string r.name, Value.int IntKind.u32 (mostN r), Value.int IntKind.i64 ((N : Int) * r.bucket), Value.int IntKind.i64 (r.bucket), Value.int IntKind.i64 (timN r), tripV (newL w0.heap.size bd bp rb rs) r, goodV (newL w0.heap.size bd bp rb rs) r, Value.nilFunc, Value.func (Fn.func 55) #[] #[Value.pointer (some ⟨bp, 0, none⟩)], Value.int IntKind.i64 0, Value.int IntKind.u64 0, Value.pointer (some ⟨w0.heap.size + 1 + 1 + 1, 0, none⟩), Value.int IntKind.u64 0, Value.int IntKind.i64 0, Value.pointer none, Value.int IntKind.u64 0, Value.int IntKind.i64 0, Value.pointer none] 123))).alloc (Obj.cells (flat (List.replicate N Cnt.zero)).toArray 98)).alloc (Obj.cells #[Value.int IntKind.u32 0, Value.int IntKind.u32 0, Value.int IntKind.u32 0, Value.int IntKind.u32 0, Value.int IntKind.u32 0, Value.int IntKind.u32 0, Value.int IntKind.u64 0, Value.slice (some ⟨w0.heap.size + 1 + 1, 0, none⟩) N N] 141))
  case first =>
    rcases out_cases rs r with ⟨h, h'⟩ | ⟨g, cap, h, h'⟩
    · go_wp2_with fail
      go_meet
      rw [h, h']; exact ⟨rfl, rfl⟩
    · go_wp2_with fail
      go_meet
      rw [h, h']; exact ⟨rfl, rfl⟩
  case rest =>
  obtain ⟨rfl, rfl⟩ := hcut
  go_upto_if 129 with fail
  go_cut [] (fun wx => wx = ((((w0.alloc (Obj.cells #[Value.func (Fn.func 52) #[] #[Value.pointer (some ⟨bp, 0, none⟩)], Value.string r.name, Value.int IntKind.u32 r.most, Value.int IntKind.i64 r.interval, Value.int IntKind.i64 r.bucket, Value.int IntKind.i64 r.timeout, tripRaw rb r, Value.func (Fn.func 55) #[] #[Value.pointer (some ⟨bp, 0, none⟩)], goodRaw rs r, outRaw rs r] 83)).alloc (Obj.cells #[Value.func (Fn.func 52) #[] #[Value.pointer (some ⟨bp, 0, none⟩)], Value.string r.name, Value.int IntKind.u32 (mostN r), Value.int IntKind.i64 ((N : Int) * r.bucket), Value.int IntKind.i64 (r.bucket), Value.int IntKind.i64 (timN r), tripV (newL w0.heap.size bd bp rb rs) r, goodV (newL w0.heap.size bd bp rb rs) r, outV (newL w0.heap.size bd bp rb rs) r, Value.func (Fn.func 55) #[] #[Value.pointer (some ⟨bp, 0, none⟩)], Value.int IntKind.i64 0, Value.int IntKind.u64 0, Value.pointer (some ⟨w0.heap.size + 1 + 1 + 1, 0, none⟩), Value.int IntKind.u64 0, Value.int IntKind.i64 0, Value.pointer none, Value.int IntKind.u64 0, Value.int IntKind.i64 0, Value.pointer none] 123))).alloc (Obj.cells (flat (List.replicate N Cnt.zero)).toArray 98)).alloc (Obj.cells #[Value.int IntKind.u32 0, Value.int IntKind.u32 0, Value.int IntKind.u32 0, Value.int IntKind.u32 0, Value.int IntKind.u32 0, Value.int IntKind.u32 0, Value.int IntKind.u64 0, Value.slice (some ⟨w0.heap.size + 1 + 1, 0, none⟩) N N] 141))
  case first =>
    rcases out_cases rs r with ⟨h, h'⟩ | ⟨g, cap, h, h'⟩
    · rw [h']
      go_wp2_with fail
      go_meet
      rw [outV_def _ _ h', h]
    · rw [h']
      go_wp2_with fail
      go_meet
      rw [outV_raw _ _ h', h]
  case rest =>
  subst hcut

  have M1 := Lib.hid (show Mod [] w0 (((((w0.alloc (Obj.cells #[Value.func (Fn.func 52) #[] #[Value.pointer (some ⟨bp, 0, none⟩)], Value.string r.name, Value.int IntKind.u32 r.most, Value.int IntKind.i64 r.interval, Value.int IntKind.i64 r.bucket, Value.int IntKind.i64 r.timeout, tripRaw rb r, Value.func (Fn.func 55) #[] #[Value.pointer (some ⟨bp, 0, none⟩)], goodRaw rs r, outRaw rs r] 83)).alloc (Obj.cells #[Value.func (Fn.func 52) #[] #[Value.pointer (some ⟨bp, 0, none⟩)], Value.string r.name, Value.int IntKind.u32 (mostN r), Value.int IntKind.i64 ((N : Int) * r.bucket), Value.int IntKind.i64 (r.bucket), Value.int IntKind.i64 (timN r), tripV (newL w0.heap.size bd bp rb rs) r, goodV (newL w0.heap.size bd bp rb rs) r, outV (newL w0.heap.size bd bp rb rs) r, Value.func (Fn.func 55) #[] #[Value.pointer (some ⟨bp, 0, none⟩)], Value.int IntKind.i64 0, Value.int IntKind.u64 0, Value.pointer (some ⟨w0.heap.size + 1 + 1 + 1, 0, none⟩), Value.int IntKind.u64 0, Value.int IntKind.i64 0, Value.pointer none, Value.int IntKind.u64 0, Value.int IntKind.i64 0, Value.pointer none] 123))).alloc (Obj.cells (flat (List.replicate N Cnt.zero)).toArray 98)).alloc (Obj.cells #[Value.int IntKind.u32 0, Value.int IntKind.u32 0, Value.int IntKind.u32 0, Value.int IntKind.u32 0, Value.int IntKind.u32 0, Value.int IntKind.u32 0, Value.int IntKind.u64 0, Value.slice (some ⟨w0.heap.size + 1 + 1, 0, none⟩) N N] 141)) from ((((Mod.refl [] w0).alloc _).alloc _).alloc _).alloc _)
  have C1 := Lib.hid (show CBat (((((w0.alloc (Obj.cells #[Value.func (Fn.func 52) #[] #[Value.pointer (some ⟨bp, 0, none⟩)], Value.string r.name, Value.int IntKind.u32 r.most, Value.int IntKind.i64 r.interval, Value.int IntKind.i64 r.bucket, Value.int IntKind.i64 r.timeout, tripRaw rb r, Value.func (Fn.func 55) #[] #[Value.pointer (some ⟨bp, 0, none⟩)], goodRaw rs r, outRaw rs r] 83)).alloc (Obj.cells #[Value.func (Fn.func 52) #[] #[Value.pointer (some ⟨bp, 0, none⟩)], Value.string r.name, Value.int IntKind.u32 (mostN r), Value.int IntKind.i64 ((N : Int) * r.bucket), Value.int IntKind.i64 (r.bucket), Value.int IntKind.i64 (timN r), tripV (newL w0.heap.size bd bp rb rs) r, goodV (newL w0.heap.size bd bp rb rs) r, outV (newL w0.heap.size bd bp rb rs) r, Value.func (Fn.func 55) #[] #[Value.pointer (some ⟨bp, 0, none⟩)], Value.int IntKind.i64 0, Value.int IntKind.u64 0, Value.pointer (some ⟨w0.heap.size + 1 + 1 + 1, 0, none⟩), Value.int IntKind.u64 0, Value.int IntKind.i64 0, Value.pointer none, Value.int IntKind.u64 0, Value.int IntKind.i64 0, Value.pointer none] 123))).alloc (Obj.cells (flat (List.replicate N Cnt.zero)).toArray 98)).alloc (Obj.cells #[Value.int IntKind.u32 0, Value.int IntKind.u32 0, Value.int IntKind.u32 0, Value.int IntKind.u32 0, Value.int IntKind.u32 0, Value.int IntKind.u32 0, Value.int IntKind.u64 0, Value.slice (some ⟨w0.heap.size + 1 + 1, 0, none⟩) N N] 141)) (newL w0.heap.size bd bp rb rs) r (freshR r N) from ⟨heap_alloc_lt (heap_alloc_lt (heap_alloc_at (by simp))), (heap_alloc_at (by simp)).trans (by simp [rcCells, freshR, Cnt.zero]), heap_alloc_lt (heap_alloc_at (by simp))⟩)
  have N1 := Lib.hid (show (((((w0.alloc (Obj.cells #[Value.func (Fn.func 52) #[] #[Value.pointer (some ⟨bp, 0, none⟩)], Value.string r.name, Value.int IntKind.u32 r.most, Value.int IntKind.i64 r.interval, Value.int IntKind.i64 r.bucket, Value.int IntKind.i64 r.timeout, tripRaw rb r, Value.func (Fn.func 55) #[] #[Value.pointer (some ⟨bp, 0, none⟩)], goodRaw rs r, outRaw rs r] 83)).alloc (Obj.cells #[Value.func (Fn.func 52) #[] #[Value.pointer (some ⟨bp, 0, none⟩)], Value.string r.name, Value.int IntKind.u32 (mostN r), Value.int IntKind.i64 ((N : Int) * r.bucket), Value.int IntKind.i64 (r.bucket), Value.int IntKind.i64 (timN r), tripV (newL w0.heap.size bd bp rb rs) r, goodV (newL w0.heap.size bd bp rb rs) r, outV (newL w0.heap.size bd bp rb rs) r, Value.func (Fn.func 55) #[] #[Value.pointer (some ⟨bp, 0, none⟩)], Value.int IntKind.i64 0, Value.int IntKind.u64 0, Value.pointer (some ⟨w0.heap.size + 1 + 1 + 1, 0, none⟩), Value.int IntKind.u64 0, Value.int IntKind.i64 0, Value.pointer none, Value.int IntKind.u64 0, Value.int IntKind.i64 0, Value.pointer none] 123))).alloc (Obj.cells (flat (List.replicate N Cnt.zero)).toArray 98)).alloc (Obj.cells #[Value.int IntKind.u32 0, Value.int IntKind.u32 0, Value.int IntKind.u32 0, Value.int IntKind.u32 0, Value.int IntKind.u32 0, Value.int IntKind.u32 0, Value.int IntKind.u64 0, Value.slice (some ⟨w0.heap.size + 1 + 1, 0, none⟩) N N] 141)).heap.size = w0.heap.size + 4 by simp)
  have c0 := (C1.out.cells).1 0
  simp only [nowV] at c0
  simp at c0
  have B1 := Lib.hid (BED2.out.keep (S := []) M1.out (by simp) (by simp) (by simp))
  have LK := Lib.hid (newL_ok z1 z2 z3 z4 e1 e2 e3)
  have LF := Lib.hid (newL_free hcr f1 f2 f3 f4)
  have S1 := Lib.hid (show Sys (((((w0.alloc (Obj.cells #[Value.func (Fn.func 52) #[] #[Value.pointer (some ⟨bp, 0, none⟩)], Value.string r.name, Value.int IntKind.u32 r.most, Value.int IntKind.i64 r.interval, Value.int IntKind.i64 r.bucket, Value.int IntKind.i64 r.timeout, tripRaw rb r, Value.func (Fn.func 55) #[] #[Value.pointer (some ⟨bp, 0, none⟩)], goodRaw rs r, outRaw rs r] 83)).alloc (Obj.cells #[Value.func (Fn.func 52) #[] #[Value.pointer (some ⟨bp, 0, none⟩)], Value.string r.name, Value.int IntKind.u32 (mostN r), Value.int IntKind.i64 ((N : Int) * r.bucket), Value.int IntKind.i64 (r.bucket), Value.int IntKind.i64 (timN r), tripV (newL w0.heap.size bd bp rb rs) r, goodV (newL w0.heap.size bd bp rb rs) r, outV (newL w0.heap.size bd bp rb rs) r, Value.func (Fn.func 55) #[] #[Value.pointer (some ⟨bp, 0, none⟩)], Value.int IntKind.i64 0, Value.int IntKind.u64 0, Value.pointer (some ⟨w0.heap.size + 1 + 1 + 1, 0, none⟩), Value.int IntKind.u64 0, Value.int IntKind.i64 0, Value.pointer none, Value.int IntKind.u64 0, Value.int IntKind.i64 0, Value.pointer none] 123))).alloc (Obj.cells (flat (List.replicate N Cnt.zero)).toArray 98)).alloc (Obj.cells #[Value.int IntKind.u32 0, Value.int IntKind.u32 0, Value.int IntKind.u32 0, Value.int IntKind.u32 0, Value.int IntKind.u32 0, Value.int IntKind.u32 0, Value.int IntKind.u64 0, Value.slice (some ⟨w0.heap.size + 1 + 1, 0, none⟩) N N] 141)) (newL w0.heap.size bd bp rb rs) cr r (freshR r N) now chs from ⟨C1.out, B1.out, M1.out.heap RB2.out (by simp), M1.out.heap RS2.out (by simp), LK.out, rok, freshR_ok r N hN h2, t0, t1, Nat.lt_of_lt_of_le hcr M1.out.size, LF.out⟩)
  clear C1 B1
  generalize hW : (((((w0.alloc (Obj.cells #[Value.func (Fn.func 52) #[] #[Value.pointer (some ⟨bp, 0, none⟩)], Value.string r.name, Value.int IntKind.u32 r.most, Value.int IntKind.i64 r.interval, Value.int IntKind.i64 r.bucket, Value.int IntKind.i64 r.timeout, tripRaw rb r, Value.func (Fn.func 55) #[] #[Value.pointer (some ⟨bp, 0, none⟩)], goodRaw rs r, outRaw rs r] 83)).alloc (Obj.cells #[Value.func (Fn.func 52) #[] #[Value.pointer (some ⟨bp, 0, none⟩)], Value.string r.name, Value.int IntKind.u32 (mostN r), Value.int IntKind.i64 ((N : Int) * r.bucket), Value.int IntKind.i64 (r.bucket), Value.int IntKind.i64 (timN r), tripV (newL w0.heap.size bd bp rb rs) r, goodV (newL w0.heap.size bd bp rb rs) r, outV (newL w0.heap.size bd bp rb rs) r, Value.func (Fn.func 55) #[] #[Value.pointer (some ⟨bp, 0, none⟩)], Value.int IntKind.i64 0, Value.int IntKind.u64 0, Value.pointer (some ⟨w0.heap.size + 1 + 1 + 1, 0, none⟩), Value.int IntKind.u64 0, Value.int IntKind.i64 0, Value.pointer none, Value.int IntKind.u64 0, Value.int IntKind.i64 0, Value.pointer none] 123))).alloc (Obj.cells (flat (List.replicate N Cnt.zero)).toArray 98)).alloc (Obj.cells #[Value.int IntKind.u32 0, Value.int IntKind.u32 0, Value.int IntKind.u32 0, Value.int IntKind.u32 0, Value.int IntKind.u32 0, Value.int IntKind.u32 0, Value.int IntKind.u64 0, Value.slice (some ⟨w0.heap.size + 1 + 1, 0, none⟩) N N] 141)) = W1 at *
  clear hW
  go_wp2_with fail
  refine (now_any (newL w0.heap.size bd bp rb rs) cr now chs _ S1.out.bed t0 t1).mono ?_
  rintro e w5 ⟨rfl, hb5⟩
  have S5 := Lib.hid (S1.out.below hb5)
  have M5 := Lib.hid (M1.out.trans (Mod.of_below hb5))
  clear hb5
  go_wp2_with fail
  refine (newGen_any (newL w0.heap.size bd bp rb rs) r (freshR r N) now _ S5.out.cb LK.out S5.out.ok t0 t1).mono ?_
  rintro e w6 ⟨rfl, hc6, hm6⟩
  have S6 := Lib.hid (S5.out.withCb hc6 (CB.newGen_ok S5.out.ok now) hm6)
  have M6 := Lib.hid (show Below w0.heap.size w0 w6 from (M5.out.mono (S' := [w0.heap.size + 1, w0.heap.size + 1 + 1 + 1, w0.heap.size + 1 + 1]) (by simp)).trans hm6 |>.below_of (Nat.le_refl _) (by simp; omega))
  clear hc6 hm6
  go_wp2_with fail
  go_ret
  have q1 := S6.out
  have q2 := M6.out
  rw [HZ.out] at q1 q2
  exact ⟨by rw [HZ.out]; rfl, q1, HBW.out.trans q2⟩

end Go.Proofs.Ytcjklacfoldaoaa

