/- Contract of settings. Condition: none but that the bed's address is known. -/
import Derived.Test.YtcjklacfoldaoaaNewA
import Derived.Laws.EntriesVeiled
namespace Go.Proofs.Ytcjklacfoldaoaa
open Go.RowKit
attribute [local go_sem ↓] Go.wp_at_zero Go.wp_at_succ

theorem tripRaw_form (r : Rules) : (∀ rb, tripRaw rb r = .nilFunc) ∨ ∃ (g : FuncId) (capf : Nat → Array Value), ∀ rb, tripRaw rb r = .func (.func g) #[] (capf rb) := by
  unfold tripRaw
  by_cases h1 : r.trip = 1
  · simp only [h1, if_true]; exact .inr ⟨_, fun rb => #[.pointer (some ⟨rb, 0, none⟩)], fun rb => rfl⟩
  · by_cases h2 : r.trip = 2
    · simp only [h2, if_true]; exact .inr ⟨_, fun rb => #[.pointer (some ⟨rb, 0, none⟩)], fun rb => rfl⟩
    · by_cases h3 : r.trip = 3
      · simp only [h3, if_true]; exact .inr ⟨_, fun rb => #[.pointer (some ⟨rb, 0, none⟩)], fun rb => rfl⟩
      · by_cases h4 : r.trip = 4
        · simp only [h4, if_true]; exact .inr ⟨_, fun _ => #[], fun rb => rfl⟩
        · by_cases h5 : r.trip = 5
          · simp only [h5, if_true]; exact .inr ⟨_, fun _ => #[], fun rb => rfl⟩
          · left; intro rb; rw [if_neg h1, if_neg h2, if_neg h3, if_neg h4, if_neg h5]

theorem tripRaw_cells (rb : Nat) (r : Rules) : (tripRaw rb r).cells = #[tripRaw rb r] := by
  unfold tripRaw; repeat (first | rfl | split)

theorem set10_other {w : World} {b k : Nat} {x : Obj} {v0 v1 v2 v3 v4 v5 v6 v7 v8 v9 : Value} (h : w.heap[k]? = some x) (hk : k ≠ b) : ((((((((((w.setCell ⟨b, 0, none⟩ v0).setCell ⟨b, 1, none⟩ v1).setCell ⟨b, 2, none⟩ v2).setCell ⟨b, 3, none⟩ v3).setCell ⟨b, 4, none⟩ v4).setCell ⟨b, 5, none⟩ v5).setCell ⟨b, 6, none⟩ v6).setCell ⟨b, 7, none⟩ v7).setCell ⟨b, 8, none⟩ v8).setCell ⟨b, 9, none⟩ v9).heap[k]? = some x :=
  heap_set_other (heap_set_other (heap_set_other (heap_set_other (heap_set_other (heap_set_other (heap_set_other (heap_set_other (heap_set_other (heap_set_other (h) hk) hk) hk) hk) hk) hk) hk) hk) hk) hk
theorem set10_below {B : Nat} {w0 w : World} {b : Nat} {v0 v1 v2 v3 v4 v5 v6 v7 v8 v9 : Value} (h : Below B w0 w) (hk : B ≤ b) : Below B w0 ((((((((((w.setCell ⟨b, 0, none⟩ v0).setCell ⟨b, 1, none⟩ v1).setCell ⟨b, 2, none⟩ v2).setCell ⟨b, 3, none⟩ v3).setCell ⟨b, 4, none⟩ v4).setCell ⟨b, 5, none⟩ v5).setCell ⟨b, 6, none⟩ v6).setCell ⟨b, 7, none⟩ v7).setCell ⟨b, 8, none⟩ v8).setCell ⟨b, 9, none⟩ v9) :=
  Below.setCell (Below.setCell (Below.setCell (Below.setCell (Below.setCell (Below.setCell (Below.setCell (Below.setCell (Below.setCell (Below.setCell (h) hk _) hk _) hk _) hk _) hk _) hk _) hk _) hk _) hk _) hk _

theorem settings_leaf1 {w W0 : World} {r : Rules} {v1 v2 v : Value} (hf : tripRaw W0.heap.size r = v) (hz : w.heap.size + 2 < W0.heap.size) :
    Hid ((((W0.alloc (.cells (rulesArr r) 24)).alloc (.cells #[v1, .string r.name, .int .u32 r.most, .int .i64 r.interval, .int .i64 r.bucket, .int .i64 r.timeout, v, v2, .nilFunc, .nilFunc] 83)).drew).heap[W0.heap.size + 1]? = some (.cells #[v1, .string r.name, .int .u32 r.most, .int .i64 r.interval, .int .i64 r.bucket, .int .i64 r.timeout, tripRaw W0.heap.size r, v2, .nilFunc, .nilFunc] 83 (0, 0)) ∧
      (((W0.alloc (.cells (rulesArr r) 24)).alloc (.cells #[v1, .string r.name, .int .u32 r.most, .int .i64 r.interval, .int .i64 r.bucket, .int .i64 r.timeout, v, v2, .nilFunc, .nilFunc] 83)).drew).heap[W0.heap.size]? = some (.cells (rulesArr r) 24 (0, 0)) ∧ w.heap.size + 2 < W0.heap.size ∧ w.heap.size + 2 < W0.heap.size + 1 ∧ W0.heap.size ≠ W0.heap.size + 1 ∧
      Below W0.heap.size W0 (((W0.alloc (.cells (rulesArr r) 24)).alloc (.cells #[v1, .string r.name, .int .u32 r.most, .int .i64 r.interval, .int .i64 r.bucket, .int .i64 r.timeout, v, v2, .nilFunc, .nilFunc] 83)).drew)) := by
  subst hf
  exact ⟨heap_drew (heap_alloc_at (by simp)), heap_drew (heap_alloc_lt (heap_alloc_new W0 _)), by omega, by omega, by omega, (((Below.refl _ _).alloc (Nat.le_refl _) _).alloc (by simp) _).drew⟩
theorem settings_leaf2 {w W0 : World} {r : Rules} {v1 v2 v : Value} (hf : tripRaw (W0.heap.size + 1) r = v) (hz : w.heap.size + 2 < W0.heap.size) :
    Hid ((((W0.alloc (.cells #[v1, .string r.name, .int .u32 r.most, .int .i64 r.interval, .int .i64 r.bucket, .int .i64 r.timeout, v, v2, .nilFunc, .nilFunc] 83)).alloc (.cells (rulesArr r) 24)).drew).heap[W0.heap.size]? = some (.cells #[v1, .string r.name, .int .u32 r.most, .int .i64 r.interval, .int .i64 r.bucket, .int .i64 r.timeout, tripRaw (W0.heap.size + 1) r, v2, .nilFunc, .nilFunc] 83 (0, 0)) ∧
      (((W0.alloc (.cells #[v1, .string r.name, .int .u32 r.most, .int .i64 r.interval, .int .i64 r.bucket, .int .i64 r.timeout, v, v2, .nilFunc, .nilFunc] 83)).alloc (.cells (rulesArr r) 24)).drew).heap[W0.heap.size + 1]? = some (.cells (rulesArr r) 24 (0, 0)) ∧ w.heap.size + 2 < W0.heap.size + 1 ∧ w.heap.size + 2 < W0.heap.size ∧ W0.heap.size + 1 ≠ W0.heap.size ∧
      Below W0.heap.size W0 (((W0.alloc (.cells #[v1, .string r.name, .int .u32 r.most, .int .i64 r.interval, .int .i64 r.bucket, .int .i64 r.timeout, v, v2, .nilFunc, .nilFunc] 83)).alloc (.cells (rulesArr r) 24)).drew)) := by
  subst hf
  exact ⟨heap_drew (heap_alloc_lt (heap_alloc_new W0 _)), heap_drew (heap_alloc_at (by simp)), by omega, by omega, by omega, (((Below.refl _ _).alloc (Nat.le_refl _) _).alloc (by simp) _).drew⟩

set_option maxRecDepth 100000 in
set_option maxHeartbeats 8000000 in
theorem settings_any (bd : Nat) (r : Rules) (w : World) :
    Calls Try.prog 33 #[.pointer (some ⟨bd, 0, none⟩), .agg #[.string r.name, .int .u32 r.most, .int .i64 r.interval, .int .i64 r.bucket, .int .i64 r.timeout, .int .i64 r.trip, .int .u32 r.bound, .bool r.hasGood, .int .u8 r.good, .bool r.hasOut, .int .u8 r.out]] w fun e w' =>
      ∃ bp rs rb, e = .returned (.agg #[.func (.func 52) #[] #[.pointer (some ⟨bp, 0, none⟩)], .string r.name, .int .u32 r.most, .int .i64 r.interval, .int .i64 r.bucket, .int .i64 r.timeout, tripRaw rb r, .func (.func 55) #[] #[.pointer (some ⟨bp, 0, none⟩)], goodRaw rs r, outRaw rs r]) ∧
        w'.heap[bp]? = some (.cells #[.pointer (some ⟨bd, 0, none⟩)] 72 (0, 0)) ∧ w'.heap[rs]? = some (.cells (rulesArr r) 24 (0, 0)) ∧ w'.heap[rb]? = some (.cells (rulesArr r) 24 (0, 0)) ∧
        bp = w.heap.size ∧ rs = w.heap.size + 1 ∧ w.heap.size + 2 < rb ∧ Below w.heap.size w w' := by
  have hmf := make_func
  rcases tripRaw_form r with hform | ⟨tg, capf, hform⟩
  all_goals (
    have HF := Lib.hid hform
    clear hform
    go_enter Try.func33, Try.ntmps33
    go_wp2_with fail
    have P0 := Lib.hid (show (((w.alloc (Obj.cells #[Value.pointer (some { block := bd, off := 0 })] 72)).alloc (Obj.cells #[Value.string r.name, Value.int IntKind.u32 r.most, Value.int IntKind.i64 r.interval, Value.int IntKind.i64 r.bucket, Value.int IntKind.i64 r.timeout, Value.int IntKind.i64 r.trip, Value.int IntKind.u32 r.bound, Value.bool r.hasGood, Value.int IntKind.u8 r.good, Value.bool r.hasOut, Value.int IntKind.u8 r.out] 24)).alloc (Obj.cells #[Value.nilFunc, Value.string { data := #[] }, Value.int IntKind.u32 0, Value.int IntKind.i64 0, Value.int IntKind.i64 0, Value.int IntKind.i64 0, Value.nilFunc, Value.nilFunc, Value.nilFunc, Value.nilFunc] 83)).heap[w.heap.size]? = some (.cells #[.pointer (some ⟨bd, 0, none⟩)] 72 (0, 0)) from heap_alloc_lt (heap_alloc_lt (heap_alloc_new w _)))
    have R0 := Lib.hid (show (((w.alloc (Obj.cells #[Value.pointer (some { block := bd, off := 0 })] 72)).alloc (Obj.cells #[Value.string r.name, Value.int IntKind.u32 r.most, Value.int IntKind.i64 r.interval, Value.int IntKind.i64 r.bucket, Value.int IntKind.i64 r.timeout, Value.int IntKind.i64 r.trip, Value.int IntKind.u32 r.bound, Value.bool r.hasGood, Value.int IntKind.u8 r.good, Value.bool r.hasOut, Value.int IntKind.u8 r.out] 24)).alloc (Obj.cells #[Value.nilFunc, Value.string { data := #[] }, Value.int IntKind.u32 0, Value.int IntKind.i64 0, Value.int IntKind.i64 0, Value.int IntKind.i64 0, Value.nilFunc, Value.nilFunc, Value.nilFunc, Value.nilFunc] 83)).heap[w.heap.size + 1]? = some (.cells (rulesArr r) 24 (0, 0)) from heap_alloc_lt (heap_alloc_at (by simp)))
    have V0 := Lib.hid (show (((w.alloc (Obj.cells #[Value.pointer (some { block := bd, off := 0 })] 72)).alloc (Obj.cells #[Value.string r.name, Value.int IntKind.u32 r.most, Value.int IntKind.i64 r.interval, Value.int IntKind.i64 r.bucket, Value.int IntKind.i64 r.timeout, Value.int IntKind.i64 r.trip, Value.int IntKind.u32 r.bound, Value.bool r.hasGood, Value.int IntKind.u8 r.good, Value.bool r.hasOut, Value.int IntKind.u8 r.out] 24)).alloc (Obj.cells #[Value.nilFunc, Value.string { data := #[] }, Value.int IntKind.u32 0, Value.int IntKind.i64 0, Value.int IntKind.i64 0, Value.int IntKind.i64 0, Value.nilFunc, Value.nilFunc, Value.nilFunc, Value.nilFunc] 83)).heap[w.heap.size + 1 + 1]? = some (.cells #[Value.nilFunc, Value.string { data := #[] }, Value.int IntKind.u32 0, Value.int IntKind.i64 0, Value.int IntKind.i64 0, Value.int IntKind.i64 0, Value.nilFunc, Value.nilFunc, Value.nilFunc, Value.nilFunc] 83 (0, 0)) from heap_alloc_at (by simp))
    have N0 := Lib.hid (show (((w.alloc (Obj.cells #[Value.pointer (some { block := bd, off := 0 })] 72)).alloc (Obj.cells #[Value.string r.name, Value.int IntKind.u32 r.most, Value.int IntKind.i64 r.interval, Value.int IntKind.i64 r.bucket, Value.int IntKind.i64 r.timeout, Value.int IntKind.i64 r.trip, Value.int IntKind.u32 r.bound, Value.bool r.hasGood, Value.int IntKind.u8 r.good, Value.bool r.hasOut, Value.int IntKind.u8 r.out] 24)).alloc (Obj.cells #[Value.nilFunc, Value.string { data := #[] }, Value.int IntKind.u32 0, Value.int IntKind.i64 0, Value.int IntKind.i64 0, Value.int IntKind.i64 0, Value.nilFunc, Value.nilFunc, Value.nilFunc, Value.nilFunc] 83)).heap.size = w.heap.size + 3 by simp)
    have B0 := Lib.hid (show Below w.heap.size w (((w.alloc (Obj.cells #[Value.pointer (some { block := bd, off := 0 })] 72)).alloc (Obj.cells #[Value.string r.name, Value.int IntKind.u32 r.most, Value.int IntKind.i64 r.interval, Value.int IntKind.i64 r.bucket, Value.int IntKind.i64 r.timeout, Value.int IntKind.i64 r.trip, Value.int IntKind.u32 r.bound, Value.bool r.hasGood, Value.int IntKind.u8 r.good, Value.bool r.hasOut, Value.int IntKind.u8 r.out] 24)).alloc (Obj.cells #[Value.nilFunc, Value.string { data := #[] }, Value.int IntKind.u32 0, Value.int IntKind.i64 0, Value.int IntKind.i64 0, Value.int IntKind.i64 0, Value.nilFunc, Value.nilFunc, Value.nilFunc, Value.nilFunc] 83)) from (((Below.refl _ _).alloc (Nat.le_refl _) _).alloc (by simp) _).alloc (by simp; omega) _)
    generalize ((w.alloc (Obj.cells #[Value.pointer (some { block := bd, off := 0 })] 72)).alloc (Obj.cells #[Value.string r.name, Value.int IntKind.u32 r.most, Value.int IntKind.i64 r.interval, Value.int IntKind.i64 r.bucket, Value.int IntKind.i64 r.timeout, Value.int IntKind.i64 r.trip, Value.int IntKind.u32 r.bound, Value.bool r.hasGood, Value.int IntKind.u8 r.good, Value.bool r.hasOut, Value.int IntKind.u8 r.out] 24)).alloc (Obj.cells #[Value.nilFunc, Value.string { data := #[] }, Value.int IntKind.u32 0, Value.int IntKind.i64 0, Value.int IntKind.i64 0, Value.int IntKind.i64 0, Value.nilFunc, Value.nilFunc, Value.nilFunc, Value.nilFunc] 83) = W0 at *
    obtain ⟨rs, hrs⟩ : ∃ rs, rs = w.heap.size + 1 := ⟨_, rfl⟩
    obtain ⟨vs, hvs⟩ : ∃ vs, vs = w.heap.size + 1 + 1 := ⟨_, rfl⟩
    have ers := Lib.hid hrs
    have evs := Lib.hid hvs
    rw [← hvs, ← hrs]
    rw [← hrs] at R0
    rw [← hvs] at V0
    have c3 := (rules_cells R0.out).1
    have z3 := size_of_heap R0.out
    have z4 : rs < W0.heap.size + 1 := by omega
    have z5 : rs ≠ W0.heap.size := by omega
    have z6 : rs ≠ W0.heap.size + 1 := by omega
    have v3 := blk_cell V0.out
    have v4 := blk_free V0.out
    have y3 := size_of_heap V0.out
    have y4 : vs < W0.heap.size + 1 := by omega
    have y5 : vs ≠ W0.heap.size := by omega
    have y6 : vs ≠ W0.heap.size + 1 := by omega
    have y7 : rs ≠ vs := by omega
    have W0sz : w.heap.size + 2 < W0.heap.size := by have := N0.out; omega
    clear hrs hvs
    go_upto_region 1 with fail
    go_cut [5] (fun s5 wx => ∃ rb vb : Nat, s5 = .pointer (some ⟨vb, 0, none⟩) ∧ Hid (wx.heap[vb]? = some (.cells #[Value.func (Fn.func 52) #[] #[Value.pointer (some ⟨w.heap.size, 0, none⟩)], Value.string r.name, Value.int IntKind.u32 r.most, Value.int IntKind.i64 r.interval, Value.int IntKind.i64 r.bucket, Value.int IntKind.i64 r.timeout, tripRaw rb r, Value.func (Fn.func 55) #[] #[Value.pointer (some ⟨w.heap.size, 0, none⟩)], Value.nilFunc, Value.nilFunc] 83 (0, 0)) ∧ wx.heap[rb]? = some (.cells (rulesArr r) 24 (0, 0)) ∧ w.heap.size + 2 < rb ∧ w.heap.size + 2 < vb ∧ rb ≠ vb ∧ Below W0.heap.size W0 wx))
    case first =>
      go_region_held3 (fun w' => ∀ i, w'.cell? ⟨rs, i, none⟩ = #[Value.string r.name, Value.int IntKind.u32 r.most, Value.int IntKind.i64 r.interval, Value.int IntKind.i64 r.bucket, Value.int IntKind.i64 r.timeout, Value.int IntKind.i64 r.trip, Value.int IntKind.u32 r.bound, Value.bool r.hasGood, Value.int IntKind.u8 r.good, Value.bool r.hasOut, Value.int IntKind.u8 r.out][i]?) (first | exact c3 | exact alloc_keep c3 z3 _ | exact alloc_keep (alloc_keep c3 z3 _) (by simp; omega) _)
      ((first | (go_at_call 54; refine (trips_any r _).mono ?_; rintro e w2 ⟨rfl, rfl⟩; rw [HF.out])))
      all_goals (
        go_wp2_with fail
        go_meet
        first
        | exact ⟨W0.heap.size, W0.heap.size + 1, rfl, (settings_leaf1 (HF.out _) W0sz)⟩
        | exact ⟨W0.heap.size + 1, W0.heap.size, rfl, (settings_leaf2 (HF.out _) W0sz)⟩)
    case rest =>
      obtain ⟨rb, vb, rfl, hh⟩ := hcut
      obtain ⟨hvb, hrb, q1, q2, q3, hB⟩ := hh.out
      have HVB := Lib.hid hvb
      have HRB := Lib.hid hrb
      have HRS := Lib.hid ((hB.block rs z3).trans R0.out)
      have HVS := Lib.hid ((hB.block vs y3).trans V0.out)
      have HBP := Lib.hid ((hB.block w.heap.size (by omega)).trans P0.out)
      have HBB := Lib.hid ((B0.out.trans (hB.mono (by omega))) : Below w.heap.size w wc)
      have n1 : vb ≠ vs := by have := evs.out; omega
      have n2 : vb ≠ rs := by have := ers.out; omega
      have n3 : rs ≠ vs := y7
      have n4 : vs < wc.heap.size := size_of_heap HVS.out
      have k1 := blk_cell hvb
      have k2 := blk_free hvb
      have k3 := (rules_cells HRS.out).1
      have k5 := blk_cell HVS.out
      have k6 := blk_free HVS.out
      have n5 : w.heap.size ≠ vb := by omega
      have n6 : w.heap.size ≤ vb := by omega
      have ct := tripRaw_cells
      have hf := HF.out rb
      clear c3 z3 z4 z5 z6 v3 v4 y3 y4 y5 y6 hvb hrb hB hh
      cases hG : r.hasGood
      · cases hO : r.hasOut
        · have GG := Lib.hid hG
          have OO := Lib.hid hO
          rw [hG] at k3
          rw [hO] at k3
          clear hG hO
          go_wp2_with fail
          have m1 := ers.out
          have m2 := evs.out
          refine bodyPost_ret (v := .agg #[Value.func (Fn.func 52) #[] #[Value.pointer (some ⟨w.heap.size, 0, none⟩)], Value.string r.name, Value.int IntKind.u32 r.most, Value.int IntKind.i64 r.interval, Value.int IntKind.i64 r.bucket, Value.int IntKind.i64 r.timeout, tripRaw rb r, Value.func (Fn.func 55) #[] #[Value.pointer (some ⟨w.heap.size, 0, none⟩)], goodRaw rs r, outRaw rs r]) (by rw [hf]; unfold goodRaw outRaw; rw [GG.out, OO.out]; simp [results, Try.results33, go_sem, k5]) rfl ?_
          exact ⟨w.heap.size, rs, rb, rfl, set10_other HBP.out (by omega), set10_other HRS.out n3, set10_other HRB.out (by omega), rfl, m1, q1, set10_below HBB.out (by omega)⟩
        · have GG := Lib.hid hG
          have OO := Lib.hid hO
          rw [hG] at k3
          rw [hO] at k3
          clear hG hO
          go_wp2_with fail
          have m1 := ers.out
          have m2 := evs.out
          refine bodyPost_ret (v := .agg #[Value.func (Fn.func 52) #[] #[Value.pointer (some ⟨w.heap.size, 0, none⟩)], Value.string r.name, Value.int IntKind.u32 r.most, Value.int IntKind.i64 r.interval, Value.int IntKind.i64 r.bucket, Value.int IntKind.i64 r.timeout, tripRaw rb r, Value.func (Fn.func 55) #[] #[Value.pointer (some ⟨w.heap.size, 0, none⟩)], goodRaw rs r, outRaw rs r]) (by rw [hf]; unfold goodRaw outRaw; rw [GG.out, OO.out]; simp [results, Try.results33, go_sem, k5]) rfl ?_
          exact ⟨w.heap.size, rs, rb, rfl, set10_other (heap_set_other HBP.out n5) (by omega), set10_other (heap_set_other HRS.out (Ne.symm n2)) n3, set10_other (heap_set_other HRB.out q3) (by omega), rfl, m1, q1, set10_below (Below.setCell HBB.out n6 _) (by omega)⟩
      · cases hO : r.hasOut
        · have GG := Lib.hid hG
          have OO := Lib.hid hO
          rw [hG] at k3
          rw [hO] at k3
          clear hG hO
          go_wp2_with fail
          have m1 := ers.out
          have m2 := evs.out
          refine bodyPost_ret (v := .agg #[Value.func (Fn.func 52) #[] #[Value.pointer (some ⟨w.heap.size, 0, none⟩)], Value.string r.name, Value.int IntKind.u32 r.most, Value.int IntKind.i64 r.interval, Value.int IntKind.i64 r.bucket, Value.int IntKind.i64 r.timeout, tripRaw rb r, Value.func (Fn.func 55) #[] #[Value.pointer (some ⟨w.heap.size, 0, none⟩)], goodRaw rs r, outRaw rs r]) (by rw [hf]; unfold goodRaw outRaw; rw [GG.out, OO.out]; simp [results, Try.results33, go_sem, k5]) rfl ?_
          exact ⟨w.heap.size, rs, rb, rfl, set10_other (heap_set_other HBP.out n5) (by omega), set10_other (heap_set_other HRS.out (Ne.symm n2)) n3, set10_other (heap_set_other HRB.out q3) (by omega), rfl, m1, q1, set10_below (Below.setCell HBB.out n6 _) (by omega)⟩
        · have GG := Lib.hid hG
          have OO := Lib.hid hO
          rw [hG] at k3
          rw [hO] at k3
          clear hG hO
          go_wp2_with fail
          have m1 := ers.out
          have m2 := evs.out
          refine bodyPost_ret (v := .agg #[Value.func (Fn.func 52) #[] #[Value.pointer (some ⟨w.heap.size, 0, none⟩)], Value.string r.name, Value.int IntKind.u32 r.most, Value.int IntKind.i64 r.interval, Value.int IntKind.i64 r.bucket, Value.int IntKind.i64 r.timeout, tripRaw rb r, Value.func (Fn.func 55) #[] #[Value.pointer (some ⟨w.heap.size, 0, none⟩)], goodRaw rs r, outRaw rs r]) (by rw [hf]; unfold goodRaw outRaw; rw [GG.out, OO.out]; simp [results, Try.results33, go_sem, k5]) rfl ?_
          exact ⟨w.heap.size, rs, rb, rfl, set10_other (heap_set_other (heap_set_other HBP.out n5) n5) (by omega), set10_other (heap_set_other (heap_set_other HRS.out (Ne.symm n2)) (Ne.symm n2)) n3, set10_other (heap_set_other (heap_set_other HRB.out q3) q3) (by omega), rfl, m1, q1, set10_below (Below.setCell (Below.setCell HBB.out n6 _) n6 _) (by omega)⟩)

end Go.Proofs.Ytcjklacfoldaoaa
