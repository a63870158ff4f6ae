/- Contract of brWorks: it is true. No condition. -/
import Derived.Test.YtcjklacfoldaoaaPlay
import Derived.Test.YtcjklacfoldaoaaLaw
import Derived.Test.YtcjklacfoldaoaaSpecL
namespace Go.Proofs.Ytcjklacfoldaoaa
open Go.RowKit
attribute [local go_sem ↓] Go.wp_at_zero Go.wp_at_succ

def rW : Rules := ⟨⟨#[]⟩, 0, 0, 0, 10, 1, 1, false, 0, false, 0⟩
def actsW : List Act := [⟨1, 0, 0, 0⟩, ⟨2, 0, 0, 1⟩, ⟨1, 0, 0, 0⟩, ⟨0, 11, 0, 0⟩]
theorem worksActs : areActs rW 0 actsW = true := by kernel_rfl
theorem worksGen : (Play.start rW 0).c.gen = 1 := by kernel_rfl
theorem worksLen : (Play.run rW 1 (Play.start rW 0) actsW).out.length = 4 := by kernel_rfl
theorem worksChs : (Play.run rW 1 (Play.start rW 0) actsW).chs.length = 2 := by kernel_rfl
theorem worksA : (ansFlat (Play.run rW 1 (Play.start rW 0) actsW).out)[18]? = some (.int .i64 1) := by kernel_rfl
theorem worksB : (ansFlat (Play.run rW 1 (Play.start rW 0) actsW).out)[28]? = some (.int .i64 1) := by kernel_rfl
theorem worksFine : Play.Fine rW (Play.start rW 0).c.gen (Play.start rW 0) actsW := by
  obtain ⟨q, h⟩ := law worksActs (by decide) (by decide)
  rw [worksGen]
  exact h.fine
theorem rW_ok : rW.Ok := ⟨by decide, by decide, by decide, by decide⟩

def actFlat (l : List Act) : List Value := l.flatMap actRow
theorem actFlat_get {l : List Act} {i : Nat} {x : Act} (h : l[i]? = some x) {j : Nat} (hj : j < 4) : (actFlat l)[i * 4 + j]? = (actRow x)[j]? := by
  induction l generalizing i with
  | nil => simp at h
  | cons a l ih =>
    cases i with
    | zero =>
      simp at h
      subst h
      simp only [actFlat, List.flatMap_cons, Nat.zero_mul, Nat.zero_add]
      rw [List.getElem?_append_left (by simpa [actRow] using hj)]
    | succ i =>
      have e : (i + 1) * 4 + j = (actRow a).length + (i * 4 + j) := by simp [actRow]; omega
      simp only [actFlat, List.flatMap_cons]
      rw [e, List.getElem?_append_right (by omega)]
      have := ih (i := i) (by simpa using h)
      simpa [actFlat] using this
theorem acts_at {w : World} {l : List Act} {k cap : Nat} (hk : k < w.heap.size) (hc : ∀ (j : Nat) (u : Value), (actFlat l)[j]? = some u → w.cell? ⟨k, j, none⟩ = some u) : ActsAt w (.slice (some ⟨k, 0, none⟩) l.length cap) l := by
  refine ⟨_, cap, rfl, fun i x hx => ⟨k, 0, rfl, hk, fun j u hu => ?_⟩⟩
  have hj : j < 4 := by
    rcases Nat.lt_or_ge j 4 with h | h
    · exact h
    · rw [List.getElem?_eq_none (by simpa [actRow] using h)] at hu; cases hu
  rw [Nat.zero_add]
  exact hc _ _ ((actFlat_get hx hj).trans hu)

set_option maxRecDepth 100000 in
set_option maxHeartbeats 4000000 in
theorem brWorks_any (w : World) : Calls Try.prog 18 #[] w fun e w' => e = .returned (.bool true) ∧ Below w.heap.size w w' := by
  go_enter Try.func18, Try.ntmps18
  go_wp2_with fail
  have A1 : (w.alloc (Obj.cells #[.int .i64 1, .int .i64 0, .int .i64 0, .int .i64 0, .int .i64 2, .int .i64 0, .int .i64 0, .int .i64 1, .int .i64 1, .int .i64 0, .int .i64 0, .int .i64 0, .int .i64 0, .int .i64 11, .int .i64 0, .int .i64 0] 45)).heap[w.heap.size]? = some (Obj.cells (actFlat actsW).toArray 45 (0, 0)) := heap_alloc_new w _
  have hp := play_any rW 0 (.slice (some ⟨w.heap.size, 0, none⟩) 4 4) actsW (w.alloc (Obj.cells #[.int .i64 1, .int .i64 0, .int .i64 0, .int .i64 0, .int .i64 2, .int .i64 0, .int .i64 0, .int .i64 1, .int .i64 1, .int .i64 0, .int .i64 0, .int .i64 0, .int .i64 0, .int .i64 11, .int .i64 0, .int .i64 0] 45)) (by decide) rW_ok (by decide) (by decide) (by decide) (by decide)
    (acts_at (l := actsW) (cap := 4) (size_of_heap A1) (fun j u hu => (blk_cell A1 j).trans (by rw [List.getElem?_toArray]; exact hu))) (by decide) worksFine
  rw [worksGen, worksLen, worksChs] at hp
  have HP := Lib.hid hp
  clear hp A1
  refine HP.out.mono ?_
  rintro e w2 ⟨vo, vc, rfl, ho, hc, hb⟩
  obtain ⟨g, cap, cs, rfl, _, _, _, hcell⟩ := row_slice ho (by decide)
  obtain ⟨p, cap2, rfl⟩ := row_len hc
  have c1 := hcell 18 _ worksA
  have c2 := hcell 28 _ worksB
  have HB := Lib.hid (((Below.refl w.heap.size w).alloc (Nat.le_refl _) (Obj.cells #[.int .i64 1, .int .i64 0, .int .i64 0, .int .i64 0, .int .i64 2, .int .i64 0, .int .i64 0, .int .i64 1, .int .i64 1, .int .i64 0, .int .i64 0, .int .i64 0, .int .i64 0, .int .i64 11, .int .i64 0, .int .i64 0] 45)).trans (hb.mono (by simp)))
  clear hcell ho hc hb
  go_wp2_with fail
  go_ret
  exact ⟨rfl, HB.out⟩

end Go.Proofs.Ytcjklacfoldaoaa
