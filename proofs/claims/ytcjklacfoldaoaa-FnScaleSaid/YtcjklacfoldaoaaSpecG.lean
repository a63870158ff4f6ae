/- Contract of the statements' Allow. Conditions: the breaker lies in its blocks, the times are in their ranges. -/
import Derived.Test.YtcjklacfoldaoaaSpecF
import Derived.Deep.QuietTactic
import Derived.BigQuiet
namespace Go.Proofs.Ytcjklacfoldaoaa
open Go.RowKit
attribute [local go_sem ↓] Go.wp_at_zero Go.wp_at_succ

namespace SB
def allowCode (r : Rules) (s : SB) : Int := if s.state = 2 then 1 else if s.state = 1 ∧ mostS r ≤ s.cnt.r then 2 else 0
def allow1 (r : Rules) (s : SB) : SB := if s.allowCode r = 0 then { s with cnt := { s.cnt with r := w32 (s.cnt.r + 1) } } else s
end SB
theorem allow_fin {b cr cr2 n : Nat} {r : Rules} {s : SB} {w w2 : World} {cv : Value} (B : SBat w2 b cr2 r s) (K : cr2 = cr ∨ w.heap.size ≤ cr2) (M : Mod [b, cr] w w2) (V : SBcv w2 b r s cv) (O : w2.ownsRow 0 34 2 cv s.chs.length (chFlat s.chs)) (R : cv.ownBlock = none ∨ cv.ownBlock = some cr2) :
    SEvo b r w cr ((w2.drewN n).setCell ⟨b, 12, none⟩ (.int .u32 ((s.cnt.r + 1) % 4294967296))) { s with cnt := { s.cnt with r := w32 (s.cnt.r + 1) } } := by
  have m : Mod [b] w2 ((w2.drewN n).setCell ⟨b, 12, none⟩ (.int .u32 ((s.cnt.r + 1) % 4294967296))) := ((Mod.refl [b] w2).drewN n).setCell _ _ (by simp)
  have hv : (w2.drewN n).heap[b]? = some (.cells (sbArr r s cv) 107 (0, 0)) := V
  exact ⟨cr2, B.one O R ((heap_set_same hv).trans (by simp [sbArr, w32])) rfl m, K, M.trans (m.mono (by simp))⟩
theorem most_q (b : Nat) (r : Rules) (s : SB) (cv : Value) (W : World) (n : Nat) (h : SBcv W b r s cv) (mild : r.Mild) :
    Calls Try.prog 64 #[.pointer (some ⟨b, 0, none⟩)] (W.drewN n) fun e w' => e = .returned (.int .u32 (mostS r)) ∧ ∃ m, w' = (W.drewN n).drewN m :=
  (most_any b r s cv (W.drewN n) h mild).mono fun _ _ ⟨a, hm⟩ => ⟨a, 0, hm.symm⟩


set_option maxRecDepth 100000 in
set_option maxHeartbeats 1000000 in
theorem sbAllow_open (b cr : Nat) (r : Rules) (s : SB) (now : Int) (w : World) (h : SBat w b cr r s) (mild : r.Mild) (hlen : s.chs.length ≤ 1000000) (t0 : -3000000000000000000 ≤ now) (t1 : now ≤ 3000000000000000000) (hst : (s.look r now).state = 2) :
    Calls Try.prog 44 #[.pointer (some ⟨b, 0, none⟩), .int .i64 now] w fun e w' => e = .returned (.int .i64 1) ∧ SEvo b r w cr w' ((s.look r now)) := by
  have HS := Lib.hid h
  have HT := Lib.hid hst
  have MI := Lib.hid mild
  clear h hst mild
  go_enter Try.func44, Try.ntmps44
  go_wp2_with fail
  refine (sbLook_any b cr r s now _ HS.out MI.out hlen t0 t1).mono ?_
  rintro e w2 ⟨rfl, cr2, b2, k2, m2⟩
  obtain ⟨cv, hv, ho, hr⟩ := b2.at_
  have hc := hv.cells.1
  have hf := hv.cells.2
  have z := size_of_heap hv
  rw [HT.out] at hc
  have B2 := Lib.hid b2
  have K2 := Lib.hid k2
  have M2 := Lib.hid m2
  have HV := Lib.hid hv
  have HO := Lib.hid ho
  have HR := Lib.hid hr
  clear b2 k2 m2 hv ho hr
  go_wp2_with fail
  go_ret
  exact ⟨rfl, cr2, B2.out, K2.out, M2.out⟩


set_option maxRecDepth 100000 in
set_option maxHeartbeats 1000000 in
theorem sbAllow_closed (b cr : Nat) (r : Rules) (s : SB) (now : Int) (w : World) (h : SBat w b cr r s) (mild : r.Mild) (hlen : s.chs.length ≤ 1000000) (t0 : -3000000000000000000 ≤ now) (t1 : now ≤ 3000000000000000000) (hst : (s.look r now).state = 0) :
    Calls Try.prog 44 #[.pointer (some ⟨b, 0, none⟩), .int .i64 now] w fun e w' => e = .returned (.int .i64 0) ∧ SEvo b r w cr w' ({ (s.look r now) with cnt := { (s.look r now).cnt with r := w32 ((s.look r now).cnt.r + 1) } }) := by
  have HS := Lib.hid h
  have HT := Lib.hid hst
  have MI := Lib.hid mild
  clear h hst mild
  go_enter Try.func44, Try.ntmps44
  go_wp2_with fail
  refine (sbLook_any b cr r s now _ HS.out MI.out hlen t0 t1).mono ?_
  rintro e w2 ⟨rfl, cr2, b2, k2, m2⟩
  obtain ⟨cv, hv, ho, hr⟩ := b2.at_
  have hc := hv.cells.1
  have hf := hv.cells.2
  have z := size_of_heap hv
  rw [HT.out] at hc
  have B2 := Lib.hid b2
  have K2 := Lib.hid k2
  have M2 := Lib.hid m2
  have HV := Lib.hid hv
  have HO := Lib.hid ho
  have HR := Lib.hid hr
  clear b2 k2 m2 hv ho hr
  go_wp2_with fail
  go_quiet ((go_at_call 64; exact Calls.quiet_of (most_q b r _ cv _ _ HV.out MI.out)))
  go_wp2_with fail
  go_ret
  exact ⟨rfl, allow_fin B2.out K2.out M2.out HV.out HO.out HR.out⟩


set_option maxRecDepth 100000 in
set_option maxHeartbeats 1000000 in
theorem sbAllow_many (b cr : Nat) (r : Rules) (s : SB) (now : Int) (w : World) (h : SBat w b cr r s) (mild : r.Mild) (hlen : s.chs.length ≤ 1000000) (t0 : -3000000000000000000 ≤ now) (t1 : now ≤ 3000000000000000000) (hst : (s.look r now).state = 1) (hm : mostS r ≤ (s.look r now).cnt.r) :
    Calls Try.prog 44 #[.pointer (some ⟨b, 0, none⟩), .int .i64 now] w fun e w' => e = .returned (.int .i64 2) ∧ SEvo b r w cr w' ((s.look r now)) := by
  have HS := Lib.hid h
  have HT := Lib.hid hst
  have MI := Lib.hid mild
  clear h hst mild
  go_enter Try.func44, Try.ntmps44
  go_wp2_with fail
  refine (sbLook_any b cr r s now _ HS.out MI.out hlen t0 t1).mono ?_
  rintro e w2 ⟨rfl, cr2, b2, k2, m2⟩
  obtain ⟨cv, hv, ho, hr⟩ := b2.at_
  have hc := hv.cells.1
  have hf := hv.cells.2
  have z := size_of_heap hv
  rw [HT.out] at hc
  have B2 := Lib.hid b2
  have K2 := Lib.hid k2
  have M2 := Lib.hid m2
  have HV := Lib.hid hv
  have HO := Lib.hid ho
  have HR := Lib.hid hr
  clear b2 k2 m2 hv ho hr
  go_wp2_with fail
  go_quiet ((go_at_call 64; exact Calls.quiet_of (most_q b r _ cv _ _ HV.out MI.out)))
  go_wp2_with fail
  go_ret
  exact ⟨rfl, cr2, B2.out.keep (S := []) ((Mod.refl [] w2).drewN _) (by simp) (by simp), K2.out, M2.out.drewN _⟩


set_option maxRecDepth 100000 in
set_option maxHeartbeats 1000000 in
theorem sbAllow_half (b cr : Nat) (r : Rules) (s : SB) (now : Int) (w : World) (h : SBat w b cr r s) (mild : r.Mild) (hlen : s.chs.length ≤ 1000000) (t0 : -3000000000000000000 ≤ now) (t1 : now ≤ 3000000000000000000) (hst : (s.look r now).state = 1) (hm : (s.look r now).cnt.r < mostS r) :
    Calls Try.prog 44 #[.pointer (some ⟨b, 0, none⟩), .int .i64 now] w fun e w' => e = .returned (.int .i64 0) ∧ SEvo b r w cr w' ({ (s.look r now) with cnt := { (s.look r now).cnt with r := w32 ((s.look r now).cnt.r + 1) } }) := by
  have HS := Lib.hid h
  have HT := Lib.hid hst
  have MI := Lib.hid mild
  clear h hst mild
  go_enter Try.func44, Try.ntmps44
  go_wp2_with fail
  refine (sbLook_any b cr r s now _ HS.out MI.out hlen t0 t1).mono ?_
  rintro e w2 ⟨rfl, cr2, b2, k2, m2⟩
  obtain ⟨cv, hv, ho, hr⟩ := b2.at_
  have hc := hv.cells.1
  have hf := hv.cells.2
  have z := size_of_heap hv
  rw [HT.out] at hc
  have B2 := Lib.hid b2
  have K2 := Lib.hid k2
  have M2 := Lib.hid m2
  have HV := Lib.hid hv
  have HO := Lib.hid ho
  have HR := Lib.hid hr
  clear b2 k2 m2 hv ho hr
  go_wp2_with fail
  go_quiet ((go_at_call 64; exact Calls.quiet_of (most_q b r _ cv _ _ HV.out MI.out)))
  go_wp2_with fail
  go_ret
  exact ⟨rfl, allow_fin B2.out K2.out M2.out HV.out HO.out HR.out⟩


theorem sbAllow_any (b cr : Nat) (r : Rules) (s : SB) (now : Int) (w : World) (h : SBat w b cr r s) (mild : r.Mild) (hlen : s.chs.length ≤ 1000000) (t0 : -3000000000000000000 ≤ now) (t1 : now ≤ 3000000000000000000) (s0 : 0 ≤ (s.look r now).state) (s1 : (s.look r now).state ≤ 2) :
    Calls Try.prog 44 #[.pointer (some ⟨b, 0, none⟩), .int .i64 now] w fun e w' => e = .returned (.int .i64 ((s.look r now).allowCode r)) ∧ SEvo b r w cr w' ((s.look r now).allow1 r) := by
  have hst : (s.look r now).state = 0 ∨ (s.look r now).state = 1 ∨ (s.look r now).state = 2 := by omega
  unfold SB.allow1
  rcases hst with hst | hst | hst
  · have e : (s.look r now).allowCode r = 0 := by unfold SB.allowCode; rw [if_neg (by omega), if_neg (by omega)]
    rw [e, if_pos rfl]; exact sbAllow_closed b cr r s now w h mild hlen t0 t1 hst
  · by_cases hm : mostS r ≤ (s.look r now).cnt.r
    · have e : (s.look r now).allowCode r = 2 := by unfold SB.allowCode; rw [if_neg (by omega), if_pos ⟨hst, hm⟩]
      rw [e, if_neg (by omega)]; exact sbAllow_many b cr r s now w h mild hlen t0 t1 hst hm
    · have e : (s.look r now).allowCode r = 0 := by unfold SB.allowCode; rw [if_neg (by omega), if_neg (fun x => hm x.2)]
      rw [e, if_pos rfl]; exact sbAllow_half b cr r s now w h mild hlen t0 t1 hst (by omega)
  · have e : (s.look r now).allowCode r = 1 := by unfold SB.allowCode; rw [if_pos hst]
    rw [e, if_neg (by omega)]; exact sbAllow_open b cr r s now w h mild hlen t0 t1 hst

end Go.Proofs.Ytcjklacfoldaoaa
