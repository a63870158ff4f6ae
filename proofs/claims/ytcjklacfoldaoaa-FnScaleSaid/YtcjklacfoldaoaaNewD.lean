/- Contract of NewTwoStepCircuitBreaker. Condition: the window does not roll. -/
import Derived.Test.YtcjklacfoldaoaaNewC
namespace Go.Proofs.Ytcjklacfoldaoaa
open Go.RowKit
attribute [local go_sem ↓] Go.wp_at_zero Go.wp_at_succ

set_option maxRecDepth 100000 in
set_option maxHeartbeats 4000000 in
theorem newTwo_one (bd bp rb rs cr : Nat) (now : Int) (chs : List (Int × Int)) (r : Rules) (w : World) (hb : r.bucket ≤ 0) (hbed : BedAt w (newL (w.heap.size + 1) bd bp rb rs) cr now chs)
    (hrb : w.heap[rb]? = some (.cells (rulesArr r) 24 (0, 0))) (hrs : w.heap[rs]? = some (.cells (rulesArr r) 24 (0, 0))) (e1 : bd ≠ bp) (e2 : bd ≠ rb) (e3 : bd ≠ rs)
    (hcr : cr < w.heap.size) (f1 : cr ≠ bd) (f2 : cr ≠ bp) (f3 : cr ≠ rb) (f4 : cr ≠ rs) (rok : r.Ok) (h1 : r.interval ≤ 1000000000000000000) (h2 : r.timeout ≤ 1000000000000000000) (t0 : -3000000000000000000 ≤ now) (t1 : now ≤ 3000000000000000000) :
    Calls Try.prog 32 #[.agg #[Value.func (Fn.func 52) #[] #[Value.pointer (some ⟨bp, 0, none⟩)], Value.string r.name, Value.int IntKind.u32 r.most, Value.int IntKind.i64 r.interval, Value.int IntKind.i64 r.bucket, Value.int IntKind.i64 r.timeout, tripRaw rb r, Value.func (Fn.func 55) #[] #[Value.pointer (some ⟨bp, 0, none⟩)], goodRaw rs r, outRaw rs r]] w fun e w' =>
      ∃ tw, e = .returned (.pointer (some ⟨tw, 0, none⟩)) ∧ Sys w' (newL (w.heap.size + 1) bd bp rb rs) cr r ((freshCB r).newGen now) now chs ∧ TwoAt w' (newL (w.heap.size + 1) bd bp rb rs) tw ∧ Sep (newL (w.heap.size + 1) bd bp rb rs) cr tw ∧ w.heap.size ≤ tw ∧ Below w.heap.size w w' := by
  have ct := trip_cells
  have cg := good_cells
  have co := out_cells
  have BED := Lib.hid hbed
  have RB := Lib.hid hrb
  have RS := Lib.hid hrs
  clear hbed hrb hrs
  go_enter Try.func32, Try.ntmps32
  go_wp2_with fail
  have e1' := Lib.hid e1
  have M1 := Lib.hid ((Mod.refl [] w).alloc (Obj.cells #[Value.func (Fn.func 52) #[] #[Value.pointer (some ⟨bp, 0, none⟩)], Value.string r.name, Value.int IntKind.u32 r.most, Value.int IntKind.i64 r.interval, Value.int IntKind.i64 r.bucket, Value.int IntKind.i64 r.timeout, tripRaw rb r, Value.func (Fn.func 55) #[] #[Value.pointer (some ⟨bp, 0, none⟩)], goodRaw rs r, outRaw rs r] 83))
  have hc := newCb_one bd bp rb rs cr now chs r (w.alloc (Obj.cells #[Value.func (Fn.func 52) #[] #[Value.pointer (some ⟨bp, 0, none⟩)], Value.string r.name, Value.int IntKind.u32 r.most, Value.int IntKind.i64 r.interval, Value.int IntKind.i64 r.bucket, Value.int IntKind.i64 r.timeout, tripRaw rb r, Value.func (Fn.func 55) #[] #[Value.pointer (some ⟨bp, 0, none⟩)], goodRaw rs r, outRaw rs r] 83)) hb
    (by simpa using BED.out.keep (S := []) M1.out (by simp) (by simp) (by simp)) (M1.out.heap RB.out (by simp)) (M1.out.heap RS.out (by simp)) e1 e2 e3 (by simp; omega) f1 f2 f3 f4 rok h1 h2 t0 t1
  refine hc.mono ?_
  clear hc
  rintro e w2 ⟨rfl, hs, hb2⟩
  have hz : (w.alloc (Obj.cells #[Value.func (Fn.func 52) #[] #[Value.pointer (some ⟨bp, 0, none⟩)], Value.string r.name, Value.int IntKind.u32 r.most, Value.int IntKind.i64 r.interval, Value.int IntKind.i64 r.bucket, Value.int IntKind.i64 r.timeout, tripRaw rb r, Value.func (Fn.func 55) #[] #[Value.pointer (some ⟨bp, 0, none⟩)], goodRaw rs r, outRaw rs r] 83)).heap.size = w.heap.size + 1 := by simp
  rw [hz] at hs
  clear hz
  have S2 := Lib.hid hs
  have B2 := Lib.hid (show Below w.heap.size w w2 from ((Below.refl _ _).alloc (Nat.le_refl _) _).trans (hb2.mono (by simp)))
  clear hs hb2
  go_wp2_with fail
  go_ret
  refine ⟨w2.heap.size, rfl, S2.out.alloc _, heap_alloc_new w2 _, S2.out.sep (Nat.le_refl _), B2.out.size, B2.out.alloc B2.out.size _⟩

end Go.Proofs.Ytcjklacfoldaoaa
