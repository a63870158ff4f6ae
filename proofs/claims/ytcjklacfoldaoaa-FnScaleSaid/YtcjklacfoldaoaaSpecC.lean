/- The statements' breaker as plain data, and contracts of its methods. Conditions: the breaker lies in its blocks, the times are in their ranges. -/
import Derived.Test.YtcjklacfoldaoaaSpecB
import Derived.Test.YtcjklacfoldaoaaBed
namespace Go.Proofs.Ytcjklacfoldaoaa
open Go.RowKit
attribute [local go_sem ↓] Go.wp_at_zero Go.wp_at_succ

structure SB where
  state : Int
  cnt : Cnt
  cleared : Int
  timed : Bool
  fin : Int
  chs : List (Int × Int)
  opn : Bool

def sbArr (r : Rules) (s : SB) (cv : Value) : Array Value :=
  #[.string r.name, .int .u32 r.most, .int .i64 r.interval, .int .i64 r.bucket, .int .i64 r.timeout, .int .i64 r.trip, .int .u32 r.bound, .bool r.hasGood, .int .u8 r.good, .bool r.hasOut, .int .u8 r.out,
    .int .i64 s.state, .int .u32 s.cnt.r, .int .u32 s.cnt.s, .int .u32 s.cnt.f, .int .u32 s.cnt.x, .int .u32 s.cnt.g, .int .u32 s.cnt.h, .int .u64 s.cleared, .bool s.timed, .int .i64 s.fin, cv, .bool s.opn]

/-- The breaker lies in block b, its changes' row is block cr, if there is one. -/
def SBcv (w : World) (b : Nat) (r : Rules) (s : SB) (cv : Value) : Prop := w.heap[b]? = some (.cells (sbArr r s cv) 107 (0, 0))
structure SBat (w : World) (b cr : Nat) (r : Rules) (s : SB) : Prop where
  at_ : ∃ cv, SBcv w b r s cv ∧ w.ownsRow 0 34 2 cv s.chs.length (chFlat s.chs) ∧ (cv.ownBlock = none ∨ cv.ownBlock = some cr)
  crb : cr ≠ b
  crlt : cr < w.heap.size

theorem SBcv.cells {w : World} {b : Nat} {r : Rules} {s : SB} {cv : Value} (h : SBcv w b r s cv) :
    (∀ i, w.cell? ⟨b, i, none⟩ = #[.string r.name, .int .u32 r.most, .int .i64 r.interval, .int .i64 r.bucket, .int .i64 r.timeout, .int .i64 r.trip, .int .u32 r.bound, .bool r.hasGood, .int .u8 r.good, .bool r.hasOut, .int .u8 r.out,
    .int .i64 s.state, .int .u32 s.cnt.r, .int .u32 s.cnt.s, .int .u32 s.cnt.f, .int .u32 s.cnt.x, .int .u32 s.cnt.g, .int .u32 s.cnt.h, .int .u64 s.cleared, .bool s.timed, .int .i64 s.fin, cv, .bool s.opn][i]?) ∧ (∀ i, w.frozen? ⟨b, i, none⟩ = false) := ⟨blk_cell h, blk_free h⟩

namespace SB
def clear (r : Rules) (now : Int) (s : SB) : SB :=
  { s with cnt := Cnt.zero, cleared := w64u (s.cleared + 1), timed := if s.state = 0 then decide (0 < r.interval) else if s.state = 2 then true else false,
           fin := if s.state = 0 then now + r.interval else if s.state = 2 then (if r.timeout ≤ 0 then now + 60000000000 else now + r.timeout) else s.fin }
end SB


set_option maxRecDepth 100000 in
set_option maxHeartbeats 2000000 in
theorem clear0_any (b : Nat) (r : Rules) (s : SB) (cv : Value) (now : Int) (w : World) (h : SBcv w b r s cv) (hs : s.state = 0)
    (t0 : -3000000000000000000 ≤ now) (t1 : now ≤ 3000000000000000000) (i0 : -1000000000000000000 ≤ r.interval) (i1 : r.interval ≤ 1000000000000000000) (_j0 : -1000000000000000000 ≤ r.timeout) (_j1 : r.timeout ≤ 1000000000000000000) :
    Calls Try.prog 62 #[.pointer (some ⟨b, 0, none⟩), .int .i64 now] w fun e w' => e = .returned (.tuple #[]) ∧ SBcv w' b r (s.clear r now) cv ∧ Mod [b] w w' := by
  have HS := Lib.hid h
  have z := size_of_heap h
  obtain ⟨hc, hf⟩ := h.cells
  rw [hs] at hc
  have HH := Lib.hid hs
  clear h hs
  go_enter Try.func62, Try.ntmps62
  go_wp2_with fail
  go_region
  go_wp2_with fail
  go_end0
  refine ⟨rfl, ?_, (((((((((((Mod.refl [b] w).setCell _ _ (by simp)).setCell _ _ (by simp)).setCell _ _ (by simp)).setCell _ _ (by simp)).setCell _ _ (by simp)).setCell _ _ (by simp)).setCell _ _ (by simp)).setCell _ _ (by simp)).setCell _ _ (by simp)).setCell _ _ (by simp)).drew⟩
  refine (heap_drew (heap_set_same (heap_set_same (heap_set_same (heap_set_same (heap_set_same (heap_set_same (heap_set_same (heap_set_same (heap_set_same (heap_set_same (HS.out)))))))))))).trans ?_
  unfold sbArr SB.clear
  dsimp only
  rw [HH.out]
  simp [w64u, Cnt.zero]


set_option maxRecDepth 100000 in
set_option maxHeartbeats 2000000 in
theorem clear1_any (b : Nat) (r : Rules) (s : SB) (cv : Value) (now : Int) (w : World) (h : SBcv w b r s cv) (hs : s.state = 1)
    (_t0 : -3000000000000000000 ≤ now) (_t1 : now ≤ 3000000000000000000) (_i0 : -1000000000000000000 ≤ r.interval) (_i1 : r.interval ≤ 1000000000000000000) (_j0 : -1000000000000000000 ≤ r.timeout) (_j1 : r.timeout ≤ 1000000000000000000) :
    Calls Try.prog 62 #[.pointer (some ⟨b, 0, none⟩), .int .i64 now] w fun e w' => e = .returned (.tuple #[]) ∧ SBcv w' b r (s.clear r now) cv ∧ Mod [b] w w' := by
  have HS := Lib.hid h
  have z := size_of_heap h
  obtain ⟨hc, hf⟩ := h.cells
  rw [hs] at hc
  have HH := Lib.hid hs
  clear h hs
  go_enter Try.func62, Try.ntmps62
  go_wp2_with fail
  go_end0
  refine ⟨rfl, ?_, ((((((((Mod.refl [b] w).setCell _ _ (by simp)).setCell _ _ (by simp)).setCell _ _ (by simp)).setCell _ _ (by simp)).setCell _ _ (by simp)).setCell _ _ (by simp)).setCell _ _ (by simp)).setCell _ _ (by simp)⟩
  refine (heap_set_same (heap_set_same (heap_set_same (heap_set_same (heap_set_same (heap_set_same (heap_set_same (heap_set_same (HS.out))))))))).trans ?_
  unfold sbArr SB.clear
  dsimp only
  rw [HH.out]
  simp [w64u, Cnt.zero]


set_option maxRecDepth 100000 in
set_option maxHeartbeats 2000000 in
theorem clear2_any (b : Nat) (r : Rules) (s : SB) (cv : Value) (now : Int) (w : World) (h : SBcv w b r s cv) (hs : s.state = 2) (ht : r.timeout ≤ 0)
    (t0 : -3000000000000000000 ≤ now) (t1 : now ≤ 3000000000000000000) (_i0 : -1000000000000000000 ≤ r.interval) (_i1 : r.interval ≤ 1000000000000000000) (j0 : -1000000000000000000 ≤ r.timeout) (_j1 : r.timeout ≤ 1000000000000000000) :
    Calls Try.prog 62 #[.pointer (some ⟨b, 0, none⟩), .int .i64 now] w fun e w' => e = .returned (.tuple #[]) ∧ SBcv w' b r (s.clear r now) cv ∧ Mod [b] w w' := by
  have HS := Lib.hid h
  have z := size_of_heap h
  obtain ⟨hc, hf⟩ := h.cells
  rw [hs] at hc
  have HH := Lib.hid hs
  clear h hs
  go_enter Try.func62, Try.ntmps62
  go_wp2_with fail
  go_end0
  refine ⟨rfl, ?_, (((((((((((Mod.refl [b] w).setCell _ _ (by simp)).setCell _ _ (by simp)).setCell _ _ (by simp)).setCell _ _ (by simp)).setCell _ _ (by simp)).setCell _ _ (by simp)).setCell _ _ (by simp)).setCell _ _ (by simp)).setCell _ _ (by simp)).setCell _ _ (by simp)).setCell _ _ (by simp)⟩
  refine (heap_set_same (heap_set_same (heap_set_same (heap_set_same (heap_set_same (heap_set_same (heap_set_same (heap_set_same (heap_set_same (heap_set_same (heap_set_same (HS.out)))))))))))).trans ?_
  unfold sbArr SB.clear
  dsimp only
  rw [HH.out]
  simp [w64u, Cnt.zero, ht]


set_option maxRecDepth 100000 in
set_option maxHeartbeats 2000000 in
theorem clear3_any (b : Nat) (r : Rules) (s : SB) (cv : Value) (now : Int) (w : World) (h : SBcv w b r s cv) (hs : s.state = 2) (ht : 0 < r.timeout)
    (t0 : -3000000000000000000 ≤ now) (t1 : now ≤ 3000000000000000000) (_i0 : -1000000000000000000 ≤ r.interval) (_i1 : r.interval ≤ 1000000000000000000) (_j0 : -1000000000000000000 ≤ r.timeout) (j1 : r.timeout ≤ 1000000000000000000) :
    Calls Try.prog 62 #[.pointer (some ⟨b, 0, none⟩), .int .i64 now] w fun e w' => e = .returned (.tuple #[]) ∧ SBcv w' b r (s.clear r now) cv ∧ Mod [b] w w' := by
  have HS := Lib.hid h
  have z := size_of_heap h
  obtain ⟨hc, hf⟩ := h.cells
  rw [hs] at hc
  have HH := Lib.hid hs
  clear h hs
  go_enter Try.func62, Try.ntmps62
  go_wp2_with fail
  go_end0
  refine ⟨rfl, ?_, ((((((((((Mod.refl [b] w).setCell _ _ (by simp)).setCell _ _ (by simp)).setCell _ _ (by simp)).setCell _ _ (by simp)).setCell _ _ (by simp)).setCell _ _ (by simp)).setCell _ _ (by simp)).setCell _ _ (by simp)).setCell _ _ (by simp)).setCell _ _ (by simp)⟩
  refine (heap_set_same (heap_set_same (heap_set_same (heap_set_same (heap_set_same (heap_set_same (heap_set_same (heap_set_same (heap_set_same (heap_set_same (HS.out))))))))))).trans ?_
  unfold sbArr SB.clear
  dsimp only
  rw [HH.out]
  simp [w64u, Cnt.zero, show ¬ r.timeout ≤ 0 by omega]


theorem clear_any (b : Nat) (r : Rules) (s : SB) (cv : Value) (now : Int) (w : World) (h : SBcv w b r s cv) (s0 : 0 ≤ s.state) (s1 : s.state ≤ 2)
    (t0 : -3000000000000000000 ≤ now) (t1 : now ≤ 3000000000000000000) (i0 : -1000000000000000000 ≤ r.interval) (i1 : r.interval ≤ 1000000000000000000) (j0 : -1000000000000000000 ≤ r.timeout) (j1 : r.timeout ≤ 1000000000000000000) :
    Calls Try.prog 62 #[.pointer (some ⟨b, 0, none⟩), .int .i64 now] w fun e w' => e = .returned (.tuple #[]) ∧ SBcv w' b r (s.clear r now) cv ∧ Mod [b] w w' := by
  have hs : s.state = 0 ∨ s.state = 1 ∨ s.state = 2 := by omega
  rcases hs with hs | hs | hs
  · exact clear0_any b r s cv now w h hs t0 t1 i0 i1 j0 j1
  · exact clear1_any b r s cv now w h hs t0 t1 i0 i1 j0 j1
  · by_cases ht : r.timeout ≤ 0
    · exact clear2_any b r s cv now w h hs ht t0 t1 i0 i1 j0 j1
    · exact clear3_any b r s cv now w h hs (by omega) t0 t1 i0 i1 j0 j1


end Go.Proofs.Ytcjklacfoldaoaa

