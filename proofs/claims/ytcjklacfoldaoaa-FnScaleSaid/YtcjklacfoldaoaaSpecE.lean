/- Contracts of NewBreaker and Look. Conditions: the breaker lies in its blocks, the times are in their ranges. -/
import Derived.Test.YtcjklacfoldaoaaSpecD
namespace Go.Proofs.Ytcjklacfoldaoaa
open Go.RowKit
attribute [local go_sem ↓] Go.wp_at_zero Go.wp_at_succ

namespace SB
def zero : SB := ⟨0, Cnt.zero, 0, false, 0, [], false⟩
def new (r : Rules) (now : Int) : SB := { SB.zero.clear r now with cleared := 0 }
def look (r : Rules) (now : Int) (s : SB) : SB :=
  if s.timed = false then s
  else if now ≤ s.fin then { s with opn := s.opn || (now == s.fin) }
  else if s.state = 0 then SB.clear r now { s with opn := s.opn || (now == s.fin) }
  else SB.set r 1 now { s with opn := s.opn || (now == s.fin) }
end SB

set_option maxRecDepth 100000 in
set_option maxHeartbeats 1000000 in
theorem newSB_any (r : Rules) (now : Int) (w : World) (mild : r.Mild) (t0 : -3000000000000000000 ≤ now) (t1 : now ≤ 3000000000000000000) :
    Calls Try.prog 42 #[rulesV r, .int .i64 now] w fun e w' => e = .returned (.pointer (some ⟨w.heap.size + 1, 0, none⟩)) ∧ SBat w' (w.heap.size + 1) w.heap.size r (SB.new r now) ∧ Below w.heap.size w w' := by
  unfold rulesV
  go_enter Try.func42, Try.ntmps42
  go_wp2_with fail
  have M1 := Lib.hid (((Mod.refl [w.heap.size + 1] w).alloc (Obj.cells (rulesArr r) 24)).alloc (Obj.cells (sbArr r SB.zero (.slice none 0 0)) 107))
  refine (clear_any (w.heap.size + 1) r SB.zero (.slice none 0 0) now _ (heap_alloc_at (by simp)) (by simp [SB.zero]) (by simp [SB.zero]) t0 t1 mild.i0 mild.i1 mild.j0 mild.j1).mono ?_
  rintro e w2 ⟨rfl, hv, hm⟩
  have HV := Lib.hid hv
  have M2 := Lib.hid (M1.out.trans hm)
  have hc := hv.cells.1
  have hf := hv.cells.2
  have z := size_of_heap hv
  clear hv hm
  go_wp2_with fail
  go_ret
  refine ⟨rfl, ⟨⟨.slice none 0 0, (heap_set_same HV.out).trans (by simp [sbArr, SB.new]), World.ownsRow_nil _ _ _ _, .inl rfl⟩, by omega, by simp; omega⟩, (M2.out.setCell _ _ (by simp)).below_of (Nat.le_refl _) (by simp)⟩

set_option maxRecDepth 100000 in
set_option maxHeartbeats 1000000 in
theorem sbLook_idle (b cr : Nat) (r : Rules) (s : SB) (now : Int) (w : World) (h : SBat w b cr r s) (ht : s.timed = false) :
    Calls Try.prog 43 #[.pointer (some ⟨b, 0, none⟩), .int .i64 now] w fun e w' => e = .returned (.tuple #[]) ∧ SEvo b r w cr w' s := by
  obtain ⟨cv, hv, ho, hr⟩ := h.at_
  have c := hv.cells.1 19
  simp at c
  rw [ht] at c
  have HS := Lib.hid h
  clear h hv ho hr ht
  go_enter Try.func43, Try.ntmps43
  go_wp2_with fail
  refine bodyPost_ret (results_none rfl _ _ _) rfl ?_
  exact ⟨rfl, cr, HS.out, .inl rfl, Mod.refl _ _⟩

set_option maxRecDepth 100000 in
set_option maxHeartbeats 1000000 in
theorem sbLook_early (b cr : Nat) (r : Rules) (s : SB) (now : Int) (w : World) (h : SBat w b cr r s) (ht : s.timed = true) (hn : now ≤ s.fin) :
    Calls Try.prog 43 #[.pointer (some ⟨b, 0, none⟩), .int .i64 now] w fun e w' => e = .returned (.tuple #[]) ∧ SEvo b r w cr w' { s with opn := s.opn || (now == s.fin) } := by
  obtain ⟨cv, hv, ho, hr⟩ := h.at_
  have hc := hv.cells.1
  have hf := hv.cells.2
  have z := size_of_heap hv
  rw [ht] at hc
  have HS := Lib.hid h
  have HV := Lib.hid hv
  have HO := Lib.hid ho
  have HR := Lib.hid hr
  have HT := Lib.hid ht
  clear h hv ho hr ht
  have M : ∀ x : Bool, Mod [b] w (w.setCell ⟨b, 22, none⟩ (.bool x)) := fun x => (Mod.refl [b] w).setCell _ _ (by simp)
  have MM := Lib.hid M
  clear M
  have fin : ∀ x : Bool, x = (s.opn || (now == s.fin)) → SEvo b r w cr (w.setCell ⟨b, 22, none⟩ (.bool x)) { s with opn := s.opn || (now == s.fin) } := by
    rintro x rfl
    exact ⟨cr, HS.out.one HO.out HR.out ((heap_set_same HV.out).trans (by simp [sbArr])) rfl (MM.out _), .inl rfl, (MM.out _).mono (by simp)⟩
  have FIN := Lib.hid fin
  clear fin
  cases hop : s.opn with
  | true =>
    rw [hop] at hc
    have HP := Lib.hid hop
    rw [← hop]
    clear hop
    go_enter Try.func43, Try.ntmps43
    go_wp2_with fail
    go_end0
    exact ⟨rfl, FIN.out _ (by rw [HP.out]; rfl)⟩
  | false =>
    rw [hop] at hc
    have HP := Lib.hid hop
    rw [← hop]
    clear hop
    go_enter Try.func43, Try.ntmps43
    go_wp2_with fail
    go_end0
    exact ⟨rfl, FIN.out _ (by rw [HP.out]; rfl)⟩

end Go.Proofs.Ytcjklacfoldaoaa
