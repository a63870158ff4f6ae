/- Contracts of the methods of Counts: each at an address whose six cells are known. Condition: the cells are numbers and may be written. -/
import Derived.Test.YtcjklacfoldaoaaModel
import Derived.Deep.QuietTactic
import Derived.BigQuiet
namespace Go.Proofs.Ytcjklacfoldaoaa
open Go.RowKit

set_option maxHeartbeats 400000 in
theorem cntReq_any (b o : Nat) (r : Int) (w : World) (hc : w.cell? ⟨b, o, none⟩ = some (.int .u32 r)) (hf : w.frozen? ⟨b, o, none⟩ = false) :
    Calls Try.prog 97 #[.pointer (some ⟨b, o, none⟩)] w fun e w' => e = .returned (.tuple #[]) ∧ w.setCell ⟨b, o, none⟩ (.int .u32 (w32 (r + 1))) = w' := by
  go_enter Try.func97, Try.ntmps97
  go_wp2
  go_end0
  exact ⟨rfl, rfl⟩

set_option maxHeartbeats 400000 in
theorem cntExcl_any (b o : Nat) (r : Int) (w : World) (hc : w.cell? ⟨b, o + 3, none⟩ = some (.int .u32 r)) (hf : w.frozen? ⟨b, o + 3, none⟩ = false) :
    Calls Try.prog 110 #[.pointer (some ⟨b, o, none⟩)] w fun e w' => e = .returned (.tuple #[]) ∧ w.setCell ⟨b, o + 3, none⟩ (.int .u32 (w32 (r + 1))) = w' := by
  go_enter Try.func110, Try.ntmps110
  go_wp2
  go_end0
  exact ⟨rfl, rfl⟩

set_option maxHeartbeats 400000 in
theorem cntSucc_any (b o : Nat) (s g h : Int) (w : World) (h1 : w.cell? ⟨b, o + 1, none⟩ = some (.int .u32 s)) (h2 : w.cell? ⟨b, o + 4, none⟩ = some (.int .u32 g)) (h3 : w.cell? ⟨b, o + 5, none⟩ = some (.int .u32 h))
    (f1 : w.frozen? ⟨b, o + 1, none⟩ = false) (f2 : w.frozen? ⟨b, o + 4, none⟩ = false) (f3 : w.frozen? ⟨b, o + 5, none⟩ = false) :
    Calls Try.prog 111 #[.pointer (some ⟨b, o, none⟩)] w fun e w' => e = .returned (.tuple #[]) ∧ ((w.setCell ⟨b, o + 1, none⟩ (.int .u32 (w32 (s + 1)))).setCell ⟨b, o + 4, none⟩ (.int .u32 (w32 (g + 1)))).setCell ⟨b, o + 5, none⟩ (.int .u32 0) = w' := by
  go_enter Try.func111, Try.ntmps111
  go_wp2
  go_end0
  exact ⟨rfl, rfl⟩

set_option maxHeartbeats 400000 in
theorem cntFail_any (b o : Nat) (s g h : Int) (w : World) (h1 : w.cell? ⟨b, o + 2, none⟩ = some (.int .u32 s)) (h2 : w.cell? ⟨b, o + 5, none⟩ = some (.int .u32 g)) (h3 : w.cell? ⟨b, o + 4, none⟩ = some (.int .u32 h))
    (f1 : w.frozen? ⟨b, o + 2, none⟩ = false) (f2 : w.frozen? ⟨b, o + 5, none⟩ = false) (f3 : w.frozen? ⟨b, o + 4, none⟩ = false) :
    Calls Try.prog 112 #[.pointer (some ⟨b, o, none⟩)] w fun e w' => e = .returned (.tuple #[]) ∧ ((w.setCell ⟨b, o + 2, none⟩ (.int .u32 (w32 (s + 1)))).setCell ⟨b, o + 5, none⟩ (.int .u32 (w32 (g + 1)))).setCell ⟨b, o + 4, none⟩ (.int .u32 0) = w' := by
  go_enter Try.func112, Try.ntmps112
  go_wp2
  go_end0
  exact ⟨rfl, rfl⟩

set_option maxHeartbeats 1000000 in
theorem cntClear_any (b o : Nat) (c : Cnt) (w : World) (h : ∀ i, i < 6 → w.cell? ⟨b, o + i, none⟩ = c.arr[i]?) (f : ∀ i, w.frozen? ⟨b, i, none⟩ = false) :
    Calls Try.prog 102 #[.pointer (some ⟨b, o, none⟩)] w fun e w' => e = .returned (.tuple #[]) ∧ zero6 w b o = w' := by
  have h0 := h 0 (by omega)
  have h1 := h 1 (by omega)
  have h2 := h 2 (by omega)
  have h3 := h 3 (by omega)
  have h4 := h 4 (by omega)
  have h5 := h 5 (by omega)
  simp [Cnt.arr] at h0 h1 h2 h3 h4 h5
  clear h
  go_enter Try.func102, Try.ntmps102
  go_wp2
  go_end0
  exact ⟨rfl, rfl⟩

set_option maxHeartbeats 1000000 in
theorem cntValid_any (b o : Nat) (r x : Int) (w : World) (h1 : w.cell? ⟨b, o, none⟩ = some (.int .u32 r)) (h2 : w.cell? ⟨b, o + 3, none⟩ = some (.int .u32 x)) :
    Calls Try.prog 83 #[.pointer (some ⟨b, o, none⟩)] w fun e w' => e = .returned (.int .u32 (if r < x then 0 else w32 (r - x))) ∧ ∃ n, w.drewN n = w' := by
  by_cases hlt : r < x
  · go_enter Try.func83, Try.ntmps83
    go_wp2
    go_quiet (fail)
    go_wp2
    go_ret
    exact ⟨by simp, _, rfl⟩
  · go_enter Try.func83, Try.ntmps83
    go_wp2
    go_quiet (fail)
    go_wp2
    go_quiet (fail)
    go_wp2
    go_ret
    exact ⟨by simp; rfl, _, rfl⟩

def validN (r x : Int) : Int := if r < x then 0 else w32 (r - x)
theorem cntValid_q (b o : Nat) (r x : Int) (W : World) (n : Nat) (h1 : W.cell? ⟨b, o, none⟩ = some (.int .u32 r)) (h2 : W.cell? ⟨b, o + 3, none⟩ = some (.int .u32 x)) :
    Calls Try.prog 83 #[.pointer (some ⟨b, o, none⟩)] (W.drewN n) fun e w' => e = .returned (.int .u32 (validN r x)) ∧ ∃ m, w' = (W.drewN n).drewN m :=
  (cntValid_any b o r x (W.drewN n) h1 h2).mono fun _ _ ⟨a, m, hm⟩ => ⟨a, m, hm.symm⟩
end Go.Proofs.Ytcjklacfoldaoaa
