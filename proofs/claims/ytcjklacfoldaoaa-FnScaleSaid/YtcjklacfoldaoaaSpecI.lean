/- Contract of the statements' Done. Conditions: the breaker lies in its blocks, the times are in their ranges. -/
import Derived.Test.YtcjklacfoldaoaaSpecH
import Derived.Deep.RegionHeld3
import Derived.Deep.DeepCutAuto
namespace Go.Proofs.Ytcjklacfoldaoaa
open Go.RowKit
attribute [local go_sem ↓] Go.wp_at_zero Go.wp_at_succ

namespace SB
def done1 (r : Rules) (now e : Int) (s : SB) : SB :=
  if outB r e then { s with cnt := s.cnt.excl, opn := s.opn || (s.state == 1) }
  else if goodB r e then (if s.state = 1 ∧ mostS r ≤ s.cnt.succ.g then SB.set r 0 now { s with cnt := s.cnt.succ } else { s with cnt := s.cnt.succ })
  else (if s.state = 1 ∨ (s.state = 0 ∧ tripB r s.cnt.fail = true) then SB.set r 2 now { s with cnt := s.cnt.fail } else { s with cnt := s.cnt.fail })
def done (r : Rules) (now cleared e : Int) (s : SB) : SB := if (s.look r now).cleared ≠ cleared then s.look r now else (s.look r now).done1 r now e
end SB

theorem SEvo.step {b cr cr1 : Nat} {r : Rules} {w w1 w2 : World} {s2 : SB} (k1 : cr1 = cr ∨ w.heap.size ≤ cr1) (m1 : Mod [b, cr] w w1) (e : SEvo b r w1 cr1 w2 s2) : SEvo b r w cr w2 s2 := by
  obtain ⟨cr2, h2, k2, m2⟩ := e
  refine ⟨cr2, h2, ?_, m1.trans_new m2 ?_⟩
  · have := m1.size
    rcases k2 with rfl | k2
    · exact k1
    · exact .inr (by omega)
  · intro i hi
    simp at hi ⊢
    rcases hi with h | h
    · exact .inl (.inl h)
    · subst h; rcases k1 with e | e
      · exact .inl (.inr e)
      · exact .inr e


set_option maxRecDepth 100000 in
set_option maxHeartbeats 2000000 in
theorem sbDone_stale (b cr : Nat) (r : Rules) (s : SB) (now cl n : Int) (w : World) (h : SBat w b cr r s) (mild : r.Mild) (rok : r.Ok) (hlen : s.chs.length ≤ 999999) (t0 : -3000000000000000000 ≤ now) (t1 : now ≤ 3000000000000000000) (_n0 : 0 ≤ n) (_n1 : n ≤ 7) (hcl : (s.look r now).cleared ≠ cl) :
    Calls Try.prog 45 #[.pointer (some ⟨b, 0, none⟩), .int .i64 now, .int .u64 cl, .int .i64 n] w fun e w' => e = .returned (.tuple #[]) ∧ SEvo b r w cr w' (s.look r now) := by
  have HS := Lib.hid h
  have MI := Lib.hid mild
  have RO := Lib.hid rok
  have hb : ((s.look r now).cleared != cl) = true := by simpa using hcl
  clear hcl
  clear h mild rok
  go_enter Try.func45, Try.ntmps45
  go_wp2_with fail
  refine (sbLook_any b cr r s now _ HS.out MI.out (by omega) t0 t1).mono ?_
  rintro e w2 ⟨rfl, cr2, b2, k2, m2⟩
  obtain ⟨cv, hv, ho, hr⟩ := b2.at_
  have hc := hv.cells.1
  have hf := hv.cells.2
  have z := size_of_heap hv
  have B2 := Lib.hid b2
  have K2 := Lib.hid k2
  have M2 := Lib.hid m2
  have HV := Lib.hid hv
  have HO := Lib.hid ho
  have HR := Lib.hid hr
  clear b2 k2 m2 hv ho hr
  go_wp2_with fail
  refine bodyPost_ret (results_none rfl _ _ _) rfl ?_
  exact ⟨rfl, cr2, B2.out, K2.out, M2.out⟩


set_option maxRecDepth 100000 in
set_option maxHeartbeats 2000000 in
theorem sbDone_out (b cr : Nat) (r : Rules) (s : SB) (now cl n : Int) (w : World) (h : SBat w b cr r s) (mild : r.Mild) (rok : r.Ok) (hlen : s.chs.length ≤ 999999) (t0 : -3000000000000000000 ≤ now) (t1 : now ≤ 3000000000000000000) (n0 : 0 ≤ n) (n1 : n ≤ 7) (hcl : (s.look r now).cleared = cl) (ho : outB r n = true) :
    Calls Try.prog 45 #[.pointer (some ⟨b, 0, none⟩), .int .i64 now, .int .u64 cl, .int .i64 n] w fun e w' => e = .returned (.tuple #[]) ∧ SEvo b r w cr w' ({ s.look r now with cnt := (s.look r now).cnt.excl, opn := (s.look r now).opn || ((s.look r now).state == 1) }) := by
  have HS := Lib.hid h
  have MI := Lib.hid mild
  have RO := Lib.hid rok
  have hb : ((s.look r now).cleared != cl) = false := by simpa using hcl
  have HOUT := Lib.hid ho
  clear hcl ho
  clear h mild rok
  go_enter Try.func45, Try.ntmps45
  go_wp2_with fail
  refine (sbLook_any b cr r s now _ HS.out MI.out (by omega) t0 t1).mono ?_
  rintro e w2 ⟨rfl, cr2, b2, k2, m2⟩
  obtain ⟨cv, hv, ho, hr⟩ := b2.at_
  have hc := hv.cells.1
  have hf := hv.cells.2
  have z := size_of_heap hv
  have B2 := Lib.hid b2
  have K2 := Lib.hid k2
  have M2 := Lib.hid m2
  have HV := Lib.hid hv
  have HO := Lib.hid ho
  have HR := Lib.hid hr
  clear b2 k2 m2 hv ho hr
  go_wp2_with fail
  refine (isOut_any r n w2 RO.out n0 n1).mono ?_
  rintro e w3 ⟨rfl, hb3⟩
  rw [HOUT.out]
  have hv3 : SBcv w3 b r (s.look r now) cv := (hb3.block b z).trans HV.out
  have hc3 := hv3.cells.1
  have hf3 := hv3.cells.2
  have V3 := Lib.hid hv3
  have B3 := Lib.hid hb3
  clear hc hf hv3 hb3
  rcases Bool.eq_false_or_eq_true (s.look r now).opn with hop | hop
  · rw [hop] at hc3
    have HP := Lib.hid hop
    clear hop
    go_wp2_with fail
    go_end0
    have m : Mod [b] w2 _ := ((Mod.of_below B3.out).setCell ⟨b, 15, none⟩ (.int .u32 (((s.look r now).cnt.x + 1) % 4294967296)) (by simp)).setCell ⟨b, 22, none⟩ (.bool true) (by simp)
    exact ⟨rfl, cr2, B2.out.one HO.out HR.out ((heap_set_same (heap_set_same V3.out)).trans (by simp [sbArr, Cnt.excl, w32, HP.out])) rfl m, K2.out, M2.out.trans (m.mono (by simp))⟩
  · rw [hop] at hc3
    have HP := Lib.hid hop
    clear hop
    go_wp2_with fail
    go_end0
    have m : Mod [b] w2 _ := ((Mod.of_below B3.out).setCell ⟨b, 15, none⟩ (.int .u32 (((s.look r now).cnt.x + 1) % 4294967296)) (by simp)).setCell ⟨b, 22, none⟩ (.bool ((s.look r now).state == 1)) (by simp)
    exact ⟨rfl, cr2, B2.out.one HO.out HR.out ((heap_set_same (heap_set_same V3.out)).trans (by simp [sbArr, Cnt.excl, w32, HP.out])) rfl m, K2.out, M2.out.trans (m.mono (by simp))⟩


set_option maxRecDepth 100000 in
set_option maxHeartbeats 2000000 in
theorem sbDone_good0 (b cr : Nat) (r : Rules) (s : SB) (now cl n : Int) (w : World) (h : SBat w b cr r s) (mild : r.Mild) (rok : r.Ok) (hlen : s.chs.length ≤ 999999) (t0 : -3000000000000000000 ≤ now) (t1 : now ≤ 3000000000000000000) (n0 : 0 ≤ n) (n1 : n ≤ 7) (hcl : (s.look r now).cleared = cl) (ho : outB r n = false) (hg : goodB r n = true) (hst : (s.look r now).state = 0) :
    Calls Try.prog 45 #[.pointer (some ⟨b, 0, none⟩), .int .i64 now, .int .u64 cl, .int .i64 n] w fun e w' => e = .returned (.tuple #[]) ∧ SEvo b r w cr w' ({ s.look r now with cnt := (s.look r now).cnt.succ }) := by
  have HS := Lib.hid h
  have MI := Lib.hid mild
  have RO := Lib.hid rok
  have hb : ((s.look r now).cleared != cl) = false := by simpa using hcl
  have HOUT := Lib.hid ho
  have HGOOD := Lib.hid hg
  have HST := Lib.hid hst
  clear hcl ho hg hst
  clear h mild rok
  go_enter Try.func45, Try.ntmps45
  go_wp2_with fail
  refine (sbLook_any b cr r s now _ HS.out MI.out (by omega) t0 t1).mono ?_
  rintro e w2 ⟨rfl, cr2, b2, k2, m2⟩
  obtain ⟨cv, hv, ho, hr⟩ := b2.at_
  have hc := hv.cells.1
  have hf := hv.cells.2
  have z := size_of_heap hv
  have B2 := Lib.hid b2
  have K2 := Lib.hid k2
  have M2 := Lib.hid m2
  have HV := Lib.hid hv
  have HO := Lib.hid ho
  have HR := Lib.hid hr
  clear b2 k2 m2 hv ho hr
  go_wp2_with fail
  refine (isOut_any r n w2 RO.out n0 n1).mono ?_
  rintro e w3 ⟨rfl, hb3⟩
  rw [HOUT.out]
  have hv3 : SBcv w3 b r (s.look r now) cv := (hb3.block b z).trans HV.out
  have hc3 := hv3.cells.1
  have hf3 := hv3.cells.2
  have V3 := Lib.hid hv3
  have B3 := Lib.hid hb3
  clear hc hf hv3 hb3
  go_wp2_with fail
  refine (isGood_any r n w3 RO.out n0 n1).mono ?_
  rintro e w4 ⟨rfl, hb4⟩
  rw [HGOOD.out]
  have hv4 : SBcv w4 b r (s.look r now) cv := (hb4.block b (size_of_heap V3.out)).trans V3.out
  have hc3 := hv4.cells.1
  have hf3 := hv4.cells.2
  have z3 := size_of_heap hv4
  have V4 := Lib.hid hv4
  have B4 := Lib.hid (B3.out.trans (hb4.mono B3.out.size))
  clear hv4 hb4
  go_upto_region 15 with fail
  have m5 := (((Mod.of_below (S := [b]) B4.out).setCell ⟨b, 13, none⟩ (.int .u32 (((s.look r now).cnt.s + 1) % 4294967296)) (by simp)).setCell ⟨b, 16, none⟩ (.int .u32 (((s.look r now).cnt.g + 1) % 4294967296)) (by simp)).setCell ⟨b, 17, none⟩ (.int .u32 0) (by simp)
  have v5 : SBcv _ b r { s.look r now with cnt := (s.look r now).cnt.succ } cv := (heap_set_same (i := 17) (v := .int .u32 0) (heap_set_same (i := 16) (v := .int .u32 (((s.look r now).cnt.g + 1) % 4294967296)) (heap_set_same (i := 13) (v := .int .u32 (((s.look r now).cnt.s + 1) % 4294967296)) V4.out))).trans (by simp [sbArr, Cnt.succ, w32])
  have M5 := Lib.hid m5
  have V5 := Lib.hid v5
  clear m5 v5 hc3 hf3 V3 V4
  generalize ((w4.setCell ⟨b, 13, none⟩ (.int .u32 (((s.look r now).cnt.s + 1) % 4294967296))).setCell ⟨b, 16, none⟩ (.int .u32 (((s.look r now).cnt.g + 1) % 4294967296))).setCell ⟨b, 17, none⟩ (.int .u32 0) = W5 at *
  have hc5 := V5.out.cells.1
  have c11 := hc5 11
  have c16 := hc5 16
  simp at c11 c16
  rw [HST.out] at c11
  clear hc5
  go_quiet ((go_at_call 64; exact Calls.quiet_of (most_q b r _ cv _ _ V5.out MI.out)))
  go_wp2_with fail
  go_end0
  exact ⟨rfl, cr2, B2.out.one HO.out HR.out V5.out rfl (M5.out.drewN _), K2.out, M2.out.trans ((M5.out.drewN _).mono (by simp))⟩


set_option maxRecDepth 100000 in
set_option maxHeartbeats 2000000 in
theorem sbDone_good2 (b cr : Nat) (r : Rules) (s : SB) (now cl n : Int) (w : World) (h : SBat w b cr r s) (mild : r.Mild) (rok : r.Ok) (hlen : s.chs.length ≤ 999999) (t0 : -3000000000000000000 ≤ now) (t1 : now ≤ 3000000000000000000) (n0 : 0 ≤ n) (n1 : n ≤ 7) (hcl : (s.look r now).cleared = cl) (ho : outB r n = false) (hg : goodB r n = true) (hst : (s.look r now).state = 2) :
    Calls Try.prog 45 #[.pointer (some ⟨b, 0, none⟩), .int .i64 now, .int .u64 cl, .int .i64 n] w fun e w' => e = .returned (.tuple #[]) ∧ SEvo b r w cr w' ({ s.look r now with cnt := (s.look r now).cnt.succ }) := by
  have HS := Lib.hid h
  have MI := Lib.hid mild
  have RO := Lib.hid rok
  have hb : ((s.look r now).cleared != cl) = false := by simpa using hcl
  have HOUT := Lib.hid ho
  have HGOOD := Lib.hid hg
  have HST := Lib.hid hst
  clear hcl ho hg hst
  clear h mild rok
  go_enter Try.func45, Try.ntmps45
  go_wp2_with fail
  refine (sbLook_any b cr r s now _ HS.out MI.out (by omega) t0 t1).mono ?_
  rintro e w2 ⟨rfl, cr2, b2, k2, m2⟩
  obtain ⟨cv, hv, ho, hr⟩ := b2.at_
  have hc := hv.cells.1
  have hf := hv.cells.2
  have z := size_of_heap hv
  have B2 := Lib.hid b2
  have K2 := Lib.hid k2
  have M2 := Lib.hid m2
  have HV := Lib.hid hv
  have HO := Lib.hid ho
  have HR := Lib.hid hr
  clear b2 k2 m2 hv ho hr
  go_wp2_with fail
  refine (isOut_any r n w2 RO.out n0 n1).mono ?_
  rintro e w3 ⟨rfl, hb3⟩
  rw [HOUT.out]
  have hv3 : SBcv w3 b r (s.look r now) cv := (hb3.block b z).trans HV.out
  have hc3 := hv3.cells.1
  have hf3 := hv3.cells.2
  have V3 := Lib.hid hv3
  have B3 := Lib.hid hb3
  clear hc hf hv3 hb3
  go_wp2_with fail
  refine (isGood_any r n w3 RO.out n0 n1).mono ?_
  rintro e w4 ⟨rfl, hb4⟩
  rw [HGOOD.out]
  have hv4 : SBcv w4 b r (s.look r now) cv := (hb4.block b (size_of_heap V3.out)).trans V3.out
  have hc3 := hv4.cells.1
  have hf3 := hv4.cells.2
  have z3 := size_of_heap hv4
  have V4 := Lib.hid hv4
  have B4 := Lib.hid (B3.out.trans (hb4.mono B3.out.size))
  clear hv4 hb4
  go_upto_region 15 with fail
  have m5 := (((Mod.of_below (S := [b]) B4.out).setCell ⟨b, 13, none⟩ (.int .u32 (((s.look r now).cnt.s + 1) % 4294967296)) (by simp)).setCell ⟨b, 16, none⟩ (.int .u32 (((s.look r now).cnt.g + 1) % 4294967296)) (by simp)).setCell ⟨b, 17, none⟩ (.int .u32 0) (by simp)
  have v5 : SBcv _ b r { s.look r now with cnt := (s.look r now).cnt.succ } cv := (heap_set_same (i := 17) (v := .int .u32 0) (heap_set_same (i := 16) (v := .int .u32 (((s.look r now).cnt.g + 1) % 4294967296)) (heap_set_same (i := 13) (v := .int .u32 (((s.look r now).cnt.s + 1) % 4294967296)) V4.out))).trans (by simp [sbArr, Cnt.succ, w32])
  have M5 := Lib.hid m5
  have V5 := Lib.hid v5
  clear m5 v5 hc3 hf3 V3 V4
  generalize ((w4.setCell ⟨b, 13, none⟩ (.int .u32 (((s.look r now).cnt.s + 1) % 4294967296))).setCell ⟨b, 16, none⟩ (.int .u32 (((s.look r now).cnt.g + 1) % 4294967296))).setCell ⟨b, 17, none⟩ (.int .u32 0) = W5 at *
  have hc5 := V5.out.cells.1
  have c11 := hc5 11
  have c16 := hc5 16
  simp at c11 c16
  rw [HST.out] at c11
  clear hc5
  go_quiet ((go_at_call 64; exact Calls.quiet_of (most_q b r _ cv _ _ V5.out MI.out)))
  go_wp2_with fail
  go_end0
  exact ⟨rfl, cr2, B2.out.one HO.out HR.out V5.out rfl (M5.out.drewN _), K2.out, M2.out.trans ((M5.out.drewN _).mono (by simp))⟩


set_option maxRecDepth 100000 in
set_option maxHeartbeats 2000000 in
theorem sbDone_stay (b cr : Nat) (r : Rules) (s : SB) (now cl n : Int) (w : World) (h : SBat w b cr r s) (mild : r.Mild) (rok : r.Ok) (hlen : s.chs.length ≤ 999999) (t0 : -3000000000000000000 ≤ now) (t1 : now ≤ 3000000000000000000) (n0 : 0 ≤ n) (n1 : n ≤ 7) (hcl : (s.look r now).cleared = cl) (ho : outB r n = false) (hg : goodB r n = true) (hst : (s.look r now).state = 1) (hm : (s.look r now).cnt.succ.g < mostS r) :
    Calls Try.prog 45 #[.pointer (some ⟨b, 0, none⟩), .int .i64 now, .int .u64 cl, .int .i64 n] w fun e w' => e = .returned (.tuple #[]) ∧ SEvo b r w cr w' ({ s.look r now with cnt := (s.look r now).cnt.succ }) := by
  have HS := Lib.hid h
  have MI := Lib.hid mild
  have RO := Lib.hid rok
  have hb : ((s.look r now).cleared != cl) = false := by simpa using hcl
  have HOUT := Lib.hid ho
  have HGOOD := Lib.hid hg
  have HST := Lib.hid hst
  clear hcl ho hg hst
  clear h mild rok
  go_enter Try.func45, Try.ntmps45
  go_wp2_with fail
  refine (sbLook_any b cr r s now _ HS.out MI.out (by omega) t0 t1).mono ?_
  rintro e w2 ⟨rfl, cr2, b2, k2, m2⟩
  obtain ⟨cv, hv, ho, hr⟩ := b2.at_
  have hc := hv.cells.1
  have hf := hv.cells.2
  have z := size_of_heap hv
  have B2 := Lib.hid b2
  have K2 := Lib.hid k2
  have M2 := Lib.hid m2
  have HV := Lib.hid hv
  have HO := Lib.hid ho
  have HR := Lib.hid hr
  clear b2 k2 m2 hv ho hr
  go_wp2_with fail
  refine (isOut_any r n w2 RO.out n0 n1).mono ?_
  rintro e w3 ⟨rfl, hb3⟩
  rw [HOUT.out]
  have hv3 : SBcv w3 b r (s.look r now) cv := (hb3.block b z).trans HV.out
  have hc3 := hv3.cells.1
  have hf3 := hv3.cells.2
  have V3 := Lib.hid hv3
  have B3 := Lib.hid hb3
  clear hc hf hv3 hb3
  go_wp2_with fail
  refine (isGood_any r n w3 RO.out n0 n1).mono ?_
  rintro e w4 ⟨rfl, hb4⟩
  rw [HGOOD.out]
  have hv4 : SBcv w4 b r (s.look r now) cv := (hb4.block b (size_of_heap V3.out)).trans V3.out
  have hc3 := hv4.cells.1
  have hf3 := hv4.cells.2
  have z3 := size_of_heap hv4
  have V4 := Lib.hid hv4
  have B4 := Lib.hid (B3.out.trans (hb4.mono B3.out.size))
  clear hv4 hb4
  go_upto_region 15 with fail
  have m5 := (((Mod.of_below (S := [b]) B4.out).setCell ⟨b, 13, none⟩ (.int .u32 (((s.look r now).cnt.s + 1) % 4294967296)) (by simp)).setCell ⟨b, 16, none⟩ (.int .u32 (((s.look r now).cnt.g + 1) % 4294967296)) (by simp)).setCell ⟨b, 17, none⟩ (.int .u32 0) (by simp)
  have v5 : SBcv _ b r { s.look r now with cnt := (s.look r now).cnt.succ } cv := (heap_set_same (i := 17) (v := .int .u32 0) (heap_set_same (i := 16) (v := .int .u32 (((s.look r now).cnt.g + 1) % 4294967296)) (heap_set_same (i := 13) (v := .int .u32 (((s.look r now).cnt.s + 1) % 4294967296)) V4.out))).trans (by simp [sbArr, Cnt.succ, w32])
  have M5 := Lib.hid m5
  have V5 := Lib.hid v5
  clear m5 v5 hc3 hf3 V3 V4
  generalize ((w4.setCell ⟨b, 13, none⟩ (.int .u32 (((s.look r now).cnt.s + 1) % 4294967296))).setCell ⟨b, 16, none⟩ (.int .u32 (((s.look r now).cnt.g + 1) % 4294967296))).setCell ⟨b, 17, none⟩ (.int .u32 0) = W5 at *
  have hc5 := V5.out.cells.1
  have c11 := hc5 11
  have c16 := hc5 16
  simp at c11 c16
  rw [HST.out] at c11
  clear hc5
  go_quiet ((go_at_call 64; exact Calls.quiet_of (most_q b r _ cv _ _ V5.out MI.out)))
  go_wp2_with fail
  go_end0
  exact ⟨rfl, cr2, B2.out.one HO.out HR.out V5.out rfl (M5.out.drewN _), K2.out, M2.out.trans ((M5.out.drewN _).mono (by simp))⟩


set_option maxRecDepth 100000 in
set_option maxHeartbeats 2000000 in
theorem sbDone_shut (b cr : Nat) (r : Rules) (s : SB) (now cl n : Int) (w : World) (h : SBat w b cr r s) (mild : r.Mild) (rok : r.Ok) (hlen : s.chs.length ≤ 999999) (t0 : -3000000000000000000 ≤ now) (t1 : now ≤ 3000000000000000000) (n0 : 0 ≤ n) (n1 : n ≤ 7) (hcl : (s.look r now).cleared = cl) (ho : outB r n = false) (hg : goodB r n = true) (hst : (s.look r now).state = 1) (hm : mostS r ≤ (s.look r now).cnt.succ.g) (hle : (s.look r now).chs.length ≤ 1000000) :
    Calls Try.prog 45 #[.pointer (some ⟨b, 0, none⟩), .int .i64 now, .int .u64 cl, .int .i64 n] w fun e w' => e = .returned (.tuple #[]) ∧ SEvo b r w cr w' (SB.set r 0 now { s.look r now with cnt := (s.look r now).cnt.succ }) := by
  have HS := Lib.hid h
  have MI := Lib.hid mild
  have RO := Lib.hid rok
  have hb : ((s.look r now).cleared != cl) = false := by simpa using hcl
  have HOUT := Lib.hid ho
  have HGOOD := Lib.hid hg
  have HST := Lib.hid hst
  clear hcl ho hg hst
  clear h mild rok
  go_enter Try.func45, Try.ntmps45
  go_wp2_with fail
  refine (sbLook_any b cr r s now _ HS.out MI.out (by omega) t0 t1).mono ?_
  rintro e w2 ⟨rfl, cr2, b2, k2, m2⟩
  obtain ⟨cv, hv, ho, hr⟩ := b2.at_
  have hc := hv.cells.1
  have hf := hv.cells.2
  have z := size_of_heap hv
  have B2 := Lib.hid b2
  have K2 := Lib.hid k2
  have M2 := Lib.hid m2
  have HV := Lib.hid hv
  have HO := Lib.hid ho
  have HR := Lib.hid hr
  clear b2 k2 m2 hv ho hr
  go_wp2_with fail
  refine (isOut_any r n w2 RO.out n0 n1).mono ?_
  rintro e w3 ⟨rfl, hb3⟩
  rw [HOUT.out]
  have hv3 : SBcv w3 b r (s.look r now) cv := (hb3.block b z).trans HV.out
  have hc3 := hv3.cells.1
  have hf3 := hv3.cells.2
  have V3 := Lib.hid hv3
  have B3 := Lib.hid hb3
  clear hc hf hv3 hb3
  go_wp2_with fail
  refine (isGood_any r n w3 RO.out n0 n1).mono ?_
  rintro e w4 ⟨rfl, hb4⟩
  rw [HGOOD.out]
  have hv4 : SBcv w4 b r (s.look r now) cv := (hb4.block b (size_of_heap V3.out)).trans V3.out
  have hc3 := hv4.cells.1
  have hf3 := hv4.cells.2
  have z3 := size_of_heap hv4
  have V4 := Lib.hid hv4
  have B4 := Lib.hid (B3.out.trans (hb4.mono B3.out.size))
  clear hv4 hb4
  go_upto_region 15 with fail
  have m5 := (((Mod.of_below (S := [b]) B4.out).setCell ⟨b, 13, none⟩ (.int .u32 (((s.look r now).cnt.s + 1) % 4294967296)) (by simp)).setCell ⟨b, 16, none⟩ (.int .u32 (((s.look r now).cnt.g + 1) % 4294967296)) (by simp)).setCell ⟨b, 17, none⟩ (.int .u32 0) (by simp)
  have v5 : SBcv _ b r { s.look r now with cnt := (s.look r now).cnt.succ } cv := (heap_set_same (i := 17) (v := .int .u32 0) (heap_set_same (i := 16) (v := .int .u32 (((s.look r now).cnt.g + 1) % 4294967296)) (heap_set_same (i := 13) (v := .int .u32 (((s.look r now).cnt.s + 1) % 4294967296)) V4.out))).trans (by simp [sbArr, Cnt.succ, w32])
  have M5 := Lib.hid m5
  have V5 := Lib.hid v5
  clear m5 v5 hc3 hf3 V3 V4
  generalize ((w4.setCell ⟨b, 13, none⟩ (.int .u32 (((s.look r now).cnt.s + 1) % 4294967296))).setCell ⟨b, 16, none⟩ (.int .u32 (((s.look r now).cnt.g + 1) % 4294967296))).setCell ⟨b, 17, none⟩ (.int .u32 0) = W5 at *
  have hc5 := V5.out.cells.1
  have c11 := hc5 11
  have c16 := hc5 16
  simp at c11 c16
  rw [HST.out] at c11
  clear hc5
  go_quiet ((go_at_call 64; exact Calls.quiet_of (most_q b r _ cv _ _ V5.out MI.out)))
  go_wp2_with fail
  have S6 := (B2.out.one HO.out HR.out V5.out rfl (M5.out))
  refine (set_any b cr2 r { s.look r now with cnt := (s.look r now).cnt.succ } 0 now _ (S6.keep (S := []) ((Mod.refl [] _).drewN _) (by simp) (by simp)) MI.out hle (by omega) (by omega) t0 t1).mono ?_
  rintro e w7 ⟨rfl, cr7, b7, k7, m7⟩
  have B7 := Lib.hid b7
  have M7 := Lib.hid m7
  have K7 := Lib.hid k7
  clear b7 m7 k7 S6
  go_wp2_with fail
  go_end0
  have m8 : Mod [b, cr2] w2 w7 := ((M5.out.drewN _).mono (by simp)).trans M7.out
  refine ⟨rfl, SEvo.step K2.out M2.out ⟨cr7, B7.out, ?_, m8⟩⟩
  have hsz := M5.out.size
  rcases K7.out with e | e
  · exact .inl e
  · exact .inr (by simp at e; omega)


set_option maxRecDepth 100000 in
set_option maxHeartbeats 2000000 in
theorem sbDone_fail2 (b cr : Nat) (r : Rules) (s : SB) (now cl n : Int) (w : World) (h : SBat w b cr r s) (mild : r.Mild) (rok : r.Ok) (hlen : s.chs.length ≤ 999999) (t0 : -3000000000000000000 ≤ now) (t1 : now ≤ 3000000000000000000) (n0 : 0 ≤ n) (n1 : n ≤ 7) (hcl : (s.look r now).cleared = cl) (ho : outB r n = false) (hg : goodB r n = false) (hst : (s.look r now).state = 2) :
    Calls Try.prog 45 #[.pointer (some ⟨b, 0, none⟩), .int .i64 now, .int .u64 cl, .int .i64 n] w fun e w' => e = .returned (.tuple #[]) ∧ SEvo b r w cr w' ({ s.look r now with cnt := (s.look r now).cnt.fail }) := by
  have HS := Lib.hid h
  have MI := Lib.hid mild
  have RO := Lib.hid rok
  have hb : ((s.look r now).cleared != cl) = false := by simpa using hcl
  have HOUT := Lib.hid ho
  have HGOOD := Lib.hid hg
  have HST := Lib.hid hst
  clear hcl ho hg hst
  clear h mild rok
  go_enter Try.func45, Try.ntmps45
  go_wp2_with fail
  refine (sbLook_any b cr r s now _ HS.out MI.out (by omega) t0 t1).mono ?_
  rintro e w2 ⟨rfl, cr2, b2, k2, m2⟩
  obtain ⟨cv, hv, ho, hr⟩ := b2.at_
  have hc := hv.cells.1
  have hf := hv.cells.2
  have z := size_of_heap hv
  have B2 := Lib.hid b2
  have K2 := Lib.hid k2
  have M2 := Lib.hid m2
  have HV := Lib.hid hv
  have HO := Lib.hid ho
  have HR := Lib.hid hr
  clear b2 k2 m2 hv ho hr
  go_wp2_with fail
  refine (isOut_any r n w2 RO.out n0 n1).mono ?_
  rintro e w3 ⟨rfl, hb3⟩
  rw [HOUT.out]
  have hv3 : SBcv w3 b r (s.look r now) cv := (hb3.block b z).trans HV.out
  have hc3 := hv3.cells.1
  have hf3 := hv3.cells.2
  have V3 := Lib.hid hv3
  have B3 := Lib.hid hb3
  clear hc hf hv3 hb3
  go_wp2_with fail
  refine (isGood_any r n w3 RO.out n0 n1).mono ?_
  rintro e w4 ⟨rfl, hb4⟩
  rw [HGOOD.out]
  have hv4 : SBcv w4 b r (s.look r now) cv := (hb4.block b (size_of_heap V3.out)).trans V3.out
  have hc3 := hv4.cells.1
  have hf3 := hv4.cells.2
  have z3 := size_of_heap hv4
  have V4 := Lib.hid hv4
  have B4 := Lib.hid (B3.out.trans (hb4.mono B3.out.size))
  clear hv4 hb4
  go_upto_region 6 with fail
  have m5 := (((Mod.of_below (S := [b]) B4.out).setCell ⟨b, 14, none⟩ (.int .u32 (((s.look r now).cnt.f + 1) % 4294967296)) (by simp)).setCell ⟨b, 17, none⟩ (.int .u32 (((s.look r now).cnt.h + 1) % 4294967296)) (by simp)).setCell ⟨b, 16, none⟩ (.int .u32 0) (by simp)
  have v5 : SBcv _ b r { s.look r now with cnt := (s.look r now).cnt.fail } cv := (heap_set_same (i := 16) (v := .int .u32 0) (heap_set_same (i := 17) (v := .int .u32 (((s.look r now).cnt.h + 1) % 4294967296)) (heap_set_same (i := 14) (v := .int .u32 (((s.look r now).cnt.f + 1) % 4294967296)) V4.out))).trans (by simp [sbArr, Cnt.fail, w32])
  have M5 := Lib.hid m5
  have V5 := Lib.hid v5
  clear m5 v5 hc3 hf3 V3 V4
  generalize ((w4.setCell ⟨b, 14, none⟩ (.int .u32 (((s.look r now).cnt.f + 1) % 4294967296))).setCell ⟨b, 17, none⟩ (.int .u32 (((s.look r now).cnt.h + 1) % 4294967296))).setCell ⟨b, 16, none⟩ (.int .u32 0) = W5 at *
  have hc5 := V5.out.cells.1
  have c11 := hc5 11
  simp at c11
  rw [HST.out] at c11
  clear hc5
  go_quiet (fail)
  go_wp2_with fail
  go_end0
  exact ⟨rfl, cr2, B2.out.one HO.out HR.out V5.out rfl (M5.out.drewN _), K2.out, M2.out.trans ((M5.out.drewN _).mono (by simp))⟩


set_option maxRecDepth 100000 in
set_option maxHeartbeats 2000000 in
theorem sbDone_fail1 (b cr : Nat) (r : Rules) (s : SB) (now cl n : Int) (w : World) (h : SBat w b cr r s) (mild : r.Mild) (rok : r.Ok) (hlen : s.chs.length ≤ 999999) (t0 : -3000000000000000000 ≤ now) (t1 : now ≤ 3000000000000000000) (n0 : 0 ≤ n) (n1 : n ≤ 7) (hcl : (s.look r now).cleared = cl) (ho : outB r n = false) (hg : goodB r n = false) (hst : (s.look r now).state = 1) (hle : (s.look r now).chs.length ≤ 1000000) :
    Calls Try.prog 45 #[.pointer (some ⟨b, 0, none⟩), .int .i64 now, .int .u64 cl, .int .i64 n] w fun e w' => e = .returned (.tuple #[]) ∧ SEvo b r w cr w' (SB.set r 2 now { s.look r now with cnt := (s.look r now).cnt.fail }) := by
  have HS := Lib.hid h
  have MI := Lib.hid mild
  have RO := Lib.hid rok
  have hb : ((s.look r now).cleared != cl) = false := by simpa using hcl
  have HOUT := Lib.hid ho
  have HGOOD := Lib.hid hg
  have HST := Lib.hid hst
  clear hcl ho hg hst
  clear h mild rok
  go_enter Try.func45, Try.ntmps45
  go_wp2_with fail
  refine (sbLook_any b cr r s now _ HS.out MI.out (by omega) t0 t1).mono ?_
  rintro e w2 ⟨rfl, cr2, b2, k2, m2⟩
  obtain ⟨cv, hv, ho, hr⟩ := b2.at_
  have hc := hv.cells.1
  have hf := hv.cells.2
  have z := size_of_heap hv
  have B2 := Lib.hid b2
  have K2 := Lib.hid k2
  have M2 := Lib.hid m2
  have HV := Lib.hid hv
  have HO := Lib.hid ho
  have HR := Lib.hid hr
  clear b2 k2 m2 hv ho hr
  go_wp2_with fail
  refine (isOut_any r n w2 RO.out n0 n1).mono ?_
  rintro e w3 ⟨rfl, hb3⟩
  rw [HOUT.out]
  have hv3 : SBcv w3 b r (s.look r now) cv := (hb3.block b z).trans HV.out
  have hc3 := hv3.cells.1
  have hf3 := hv3.cells.2
  have V3 := Lib.hid hv3
  have B3 := Lib.hid hb3
  clear hc hf hv3 hb3
  go_wp2_with fail
  refine (isGood_any r n w3 RO.out n0 n1).mono ?_
  rintro e w4 ⟨rfl, hb4⟩
  rw [HGOOD.out]
  have hv4 : SBcv w4 b r (s.look r now) cv := (hb4.block b (size_of_heap V3.out)).trans V3.out
  have hc3 := hv4.cells.1
  have hf3 := hv4.cells.2
  have z3 := size_of_heap hv4
  have V4 := Lib.hid hv4
  have B4 := Lib.hid (B3.out.trans (hb4.mono B3.out.size))
  clear hv4 hb4
  go_upto_region 6 with fail
  have m5 := (((Mod.of_below (S := [b]) B4.out).setCell ⟨b, 14, none⟩ (.int .u32 (((s.look r now).cnt.f + 1) % 4294967296)) (by simp)).setCell ⟨b, 17, none⟩ (.int .u32 (((s.look r now).cnt.h + 1) % 4294967296)) (by simp)).setCell ⟨b, 16, none⟩ (.int .u32 0) (by simp)
  have v5 : SBcv _ b r { s.look r now with cnt := (s.look r now).cnt.fail } cv := (heap_set_same (i := 16) (v := .int .u32 0) (heap_set_same (i := 17) (v := .int .u32 (((s.look r now).cnt.h + 1) % 4294967296)) (heap_set_same (i := 14) (v := .int .u32 (((s.look r now).cnt.f + 1) % 4294967296)) V4.out))).trans (by simp [sbArr, Cnt.fail, w32])
  have M5 := Lib.hid m5
  have V5 := Lib.hid v5
  clear m5 v5 hc3 hf3 V3 V4
  generalize ((w4.setCell ⟨b, 14, none⟩ (.int .u32 (((s.look r now).cnt.f + 1) % 4294967296))).setCell ⟨b, 17, none⟩ (.int .u32 (((s.look r now).cnt.h + 1) % 4294967296))).setCell ⟨b, 16, none⟩ (.int .u32 0) = W5 at *
  have hc5 := V5.out.cells.1
  have c11 := hc5 11
  simp at c11
  rw [HST.out] at c11
  clear hc5
  go_quiet (fail)
  go_wp2_with fail
  have S6 := (B2.out.one HO.out HR.out V5.out rfl (M5.out))
  refine (set_any b cr2 r { s.look r now with cnt := (s.look r now).cnt.fail } 2 now _ (S6.keep (S := []) ((Mod.refl [] _).drewN _) (by simp) (by simp)) MI.out hle (by omega) (by omega) t0 t1).mono ?_
  rintro e w7 ⟨rfl, cr7, b7, k7, m7⟩
  have B7 := Lib.hid b7
  have M7 := Lib.hid m7
  have K7 := Lib.hid k7
  clear b7 m7 k7 S6
  go_wp2_with fail
  go_end0
  have m8 : Mod [b, cr2] w2 w7 := ((M5.out.drewN _).mono (by simp)).trans M7.out
  refine ⟨rfl, SEvo.step K2.out M2.out ⟨cr7, B7.out, ?_, m8⟩⟩
  have hsz := M5.out.size
  rcases K7.out with e | e
  · exact .inl e
  · exact .inr (by simp at e; omega)


set_option maxRecDepth 100000 in
set_option maxHeartbeats 2000000 in
theorem sbDone_fail0 (b cr : Nat) (r : Rules) (s : SB) (now cl n : Int) (w : World) (h : SBat w b cr r s) (mild : r.Mild) (rok : r.Ok) (hlen : s.chs.length ≤ 999999) (t0 : -3000000000000000000 ≤ now) (t1 : now ≤ 3000000000000000000) (n0 : 0 ≤ n) (n1 : n ≤ 7) (hcl : (s.look r now).cleared = cl) (ho : outB r n = false) (hg : goodB r n = false) (hst : (s.look r now).state = 0) (htr : tripB r (s.look r now).cnt.fail = false) :
    Calls Try.prog 45 #[.pointer (some ⟨b, 0, none⟩), .int .i64 now, .int .u64 cl, .int .i64 n] w fun e w' => e = .returned (.tuple #[]) ∧ SEvo b r w cr w' ({ s.look r now with cnt := (s.look r now).cnt.fail }) := by
  have HS := Lib.hid h
  have MI := Lib.hid mild
  have RO := Lib.hid rok
  have hb : ((s.look r now).cleared != cl) = false := by simpa using hcl
  have HOUT := Lib.hid ho
  have HGOOD := Lib.hid hg
  have HST := Lib.hid hst
  clear hcl ho hg hst
  have HTR := Lib.hid htr
  clear htr
  clear h mild rok
  go_enter Try.func45, Try.ntmps45
  go_wp2_with fail
  refine (sbLook_any b cr r s now _ HS.out MI.out (by omega) t0 t1).mono ?_
  rintro e w2 ⟨rfl, cr2, b2, k2, m2⟩
  obtain ⟨cv, hv, ho, hr⟩ := b2.at_
  have hc := hv.cells.1
  have hf := hv.cells.2
  have z := size_of_heap hv
  have B2 := Lib.hid b2
  have K2 := Lib.hid k2
  have M2 := Lib.hid m2
  have HV := Lib.hid hv
  have HO := Lib.hid ho
  have HR := Lib.hid hr
  clear b2 k2 m2 hv ho hr
  go_wp2_with fail
  refine (isOut_any r n w2 RO.out n0 n1).mono ?_
  rintro e w3 ⟨rfl, hb3⟩
  rw [HOUT.out]
  have hv3 : SBcv w3 b r (s.look r now) cv := (hb3.block b z).trans HV.out
  have hc3 := hv3.cells.1
  have hf3 := hv3.cells.2
  have V3 := Lib.hid hv3
  have B3 := Lib.hid hb3
  clear hc hf hv3 hb3
  go_wp2_with fail
  refine (isGood_any r n w3 RO.out n0 n1).mono ?_
  rintro e w4 ⟨rfl, hb4⟩
  rw [HGOOD.out]
  have hv4 : SBcv w4 b r (s.look r now) cv := (hb4.block b (size_of_heap V3.out)).trans V3.out
  have hc3 := hv4.cells.1
  have hf3 := hv4.cells.2
  have z3 := size_of_heap hv4
  have V4 := Lib.hid hv4
  have B4 := Lib.hid (B3.out.trans (hb4.mono B3.out.size))
  clear hv4 hb4
  go_upto_region 6 with fail
  have m5 := (((Mod.of_below (S := [b]) B4.out).setCell ⟨b, 14, none⟩ (.int .u32 (((s.look r now).cnt.f + 1) % 4294967296)) (by simp)).setCell ⟨b, 17, none⟩ (.int .u32 (((s.look r now).cnt.h + 1) % 4294967296)) (by simp)).setCell ⟨b, 16, none⟩ (.int .u32 0) (by simp)
  have v5 : SBcv _ b r { s.look r now with cnt := (s.look r now).cnt.fail } cv := (heap_set_same (i := 16) (v := .int .u32 0) (heap_set_same (i := 17) (v := .int .u32 (((s.look r now).cnt.h + 1) % 4294967296)) (heap_set_same (i := 14) (v := .int .u32 (((s.look r now).cnt.f + 1) % 4294967296)) V4.out))).trans (by simp [sbArr, Cnt.fail, w32])
  have M5 := Lib.hid m5
  have V5 := Lib.hid v5
  clear m5 v5 hc3 hf3 V3 V4
  generalize ((w4.setCell ⟨b, 14, none⟩ (.int .u32 (((s.look r now).cnt.f + 1) % 4294967296))).setCell ⟨b, 17, none⟩ (.int .u32 (((s.look r now).cnt.h + 1) % 4294967296))).setCell ⟨b, 16, none⟩ (.int .u32 0) = W5 at *
  have hc5 := V5.out.cells.1
  have z5 := size_of_heap V5.out
  dsimp only at hc5
  rw [HST.out] at hc5
  go_region_held3 (fun w' => ∀ i, w'.cell? ⟨b, i, none⟩ = #[Value.string r.name, .int .u32 r.most, .int .i64 r.interval, .int .i64 r.bucket, .int .i64 r.timeout, .int .i64 r.trip, .int .u32 r.bound, .bool r.hasGood, .int .u8 r.good, .bool r.hasOut, .int .u8 r.out, .int .i64 0, .int .u32 (s.look r now).cnt.fail.r, .int .u32 (s.look r now).cnt.fail.s, .int .u32 (s.look r now).cnt.fail.f, .int .u32 (s.look r now).cnt.fail.x, .int .u32 (s.look r now).cnt.fail.g, .int .u32 (s.look r now).cnt.fail.h, .int .u64 (s.look r now).cleared, .bool (s.look r now).timed, .int .i64 (s.look r now).fin, cv, .bool (s.look r now).opn][i]?) (first | exact hc5 | exact p5 | (go_keep; done))
    ((first | (go_at_call 67; refine (trips2_any r (s.look r now).cnt.fail _).mono ?_; rintro e w6 ⟨rfl, hb6⟩; rw [HTR.out]; have v6 : SBcv w6 b r { s.look r now with cnt := (s.look r now).cnt.fail } cv := (hb6.block b (by exact z5)).trans (by exact V5.out); have p5 := v6.cells.1; dsimp only at p5; rw [HST.out] at p5)))
  have V6 := Lib.hid v6
  have M6 := Lib.hid (M5.out.drew.trans (Mod.of_below (S := [b]) hb6))
  clear v6 hb6 p5 hc5
  go_wp2_with fail
  go_end0
  exact ⟨rfl, cr2, B2.out.one HO.out HR.out V6.out rfl M6.out, K2.out, M2.out.trans (M6.out.mono (by simp))⟩


set_option maxRecDepth 100000 in
set_option maxHeartbeats 2000000 in
theorem sbDone_fail3 (b cr : Nat) (r : Rules) (s : SB) (now cl n : Int) (w : World) (h : SBat w b cr r s) (mild : r.Mild) (rok : r.Ok) (hlen : s.chs.length ≤ 999999) (t0 : -3000000000000000000 ≤ now) (t1 : now ≤ 3000000000000000000) (n0 : 0 ≤ n) (n1 : n ≤ 7) (hcl : (s.look r now).cleared = cl) (ho : outB r n = false) (hg : goodB r n = false) (hst : (s.look r now).state = 0) (htr : tripB r (s.look r now).cnt.fail = true) (hle : (s.look r now).chs.length ≤ 1000000) :
    Calls Try.prog 45 #[.pointer (some ⟨b, 0, none⟩), .int .i64 now, .int .u64 cl, .int .i64 n] w fun e w' => e = .returned (.tuple #[]) ∧ SEvo b r w cr w' (SB.set r 2 now { s.look r now with cnt := (s.look r now).cnt.fail }) := by
  have HS := Lib.hid h
  have MI := Lib.hid mild
  have RO := Lib.hid rok
  have hb : ((s.look r now).cleared != cl) = false := by simpa using hcl
  have HOUT := Lib.hid ho
  have HGOOD := Lib.hid hg
  have HST := Lib.hid hst
  clear hcl ho hg hst
  have HTR := Lib.hid htr
  clear htr
  clear h mild rok
  go_enter Try.func45, Try.ntmps45
  go_wp2_with fail
  refine (sbLook_any b cr r s now _ HS.out MI.out (by omega) t0 t1).mono ?_
  rintro e w2 ⟨rfl, cr2, b2, k2, m2⟩
  obtain ⟨cv, hv, ho, hr⟩ := b2.at_
  have hc := hv.cells.1
  have hf := hv.cells.2
  have z := size_of_heap hv
  have B2 := Lib.hid b2
  have K2 := Lib.hid k2
  have M2 := Lib.hid m2
  have HV := Lib.hid hv
  have HO := Lib.hid ho
  have HR := Lib.hid hr
  clear b2 k2 m2 hv ho hr
  go_wp2_with fail
  refine (isOut_any r n w2 RO.out n0 n1).mono ?_
  rintro e w3 ⟨rfl, hb3⟩
  rw [HOUT.out]
  have hv3 : SBcv w3 b r (s.look r now) cv := (hb3.block b z).trans HV.out
  have hc3 := hv3.cells.1
  have hf3 := hv3.cells.2
  have V3 := Lib.hid hv3
  have B3 := Lib.hid hb3
  clear hc hf hv3 hb3
  go_wp2_with fail
  refine (isGood_any r n w3 RO.out n0 n1).mono ?_
  rintro e w4 ⟨rfl, hb4⟩
  rw [HGOOD.out]
  have hv4 : SBcv w4 b r (s.look r now) cv := (hb4.block b (size_of_heap V3.out)).trans V3.out
  have hc3 := hv4.cells.1
  have hf3 := hv4.cells.2
  have z3 := size_of_heap hv4
  have V4 := Lib.hid hv4
  have B4 := Lib.hid (B3.out.trans (hb4.mono B3.out.size))
  clear hv4 hb4
  go_upto_region 6 with fail
  have m5 := (((Mod.of_below (S := [b]) B4.out).setCell ⟨b, 14, none⟩ (.int .u32 (((s.look r now).cnt.f + 1) % 4294967296)) (by simp)).setCell ⟨b, 17, none⟩ (.int .u32 (((s.look r now).cnt.h + 1) % 4294967296)) (by simp)).setCell ⟨b, 16, none⟩ (.int .u32 0) (by simp)
  have v5 : SBcv _ b r { s.look r now with cnt := (s.look r now).cnt.fail } cv := (heap_set_same (i := 16) (v := .int .u32 0) (heap_set_same (i := 17) (v := .int .u32 (((s.look r now).cnt.h + 1) % 4294967296)) (heap_set_same (i := 14) (v := .int .u32 (((s.look r now).cnt.f + 1) % 4294967296)) V4.out))).trans (by simp [sbArr, Cnt.fail, w32])
  have M5 := Lib.hid m5
  have V5 := Lib.hid v5
  clear m5 v5 hc3 hf3 V3 V4
  generalize ((w4.setCell ⟨b, 14, none⟩ (.int .u32 (((s.look r now).cnt.f + 1) % 4294967296))).setCell ⟨b, 17, none⟩ (.int .u32 (((s.look r now).cnt.h + 1) % 4294967296))).setCell ⟨b, 16, none⟩ (.int .u32 0) = W5 at *
  have hc5 := V5.out.cells.1
  have z5 := size_of_heap V5.out
  dsimp only at hc5
  rw [HST.out] at hc5
  go_region_held3 (fun w' => ∀ i, w'.cell? ⟨b, i, none⟩ = #[Value.string r.name, .int .u32 r.most, .int .i64 r.interval, .int .i64 r.bucket, .int .i64 r.timeout, .int .i64 r.trip, .int .u32 r.bound, .bool r.hasGood, .int .u8 r.good, .bool r.hasOut, .int .u8 r.out, .int .i64 0, .int .u32 (s.look r now).cnt.fail.r, .int .u32 (s.look r now).cnt.fail.s, .int .u32 (s.look r now).cnt.fail.f, .int .u32 (s.look r now).cnt.fail.x, .int .u32 (s.look r now).cnt.fail.g, .int .u32 (s.look r now).cnt.fail.h, .int .u64 (s.look r now).cleared, .bool (s.look r now).timed, .int .i64 (s.look r now).fin, cv, .bool (s.look r now).opn][i]?) (first | exact hc5 | exact p5 | (go_keep; done))
    ((first | (go_at_call 67; refine (trips2_any r (s.look r now).cnt.fail _).mono ?_; rintro e w6 ⟨rfl, hb6⟩; rw [HTR.out]; have v6 : SBcv w6 b r { s.look r now with cnt := (s.look r now).cnt.fail } cv := (hb6.block b (by exact z5)).trans (by exact V5.out); have p5 := v6.cells.1; dsimp only at p5; rw [HST.out] at p5)))
  have V6 := Lib.hid v6
  have M6 := Lib.hid (M5.out.drew.trans (Mod.of_below (S := [b]) hb6))
  clear v6 hb6 p5 hc5
  go_wp2_with fail
  have S6 := (B2.out.one HO.out HR.out V6.out rfl (M6.out))
  refine (set_any b cr2 r { s.look r now with cnt := (s.look r now).cnt.fail } 2 now _ S6 MI.out hle (by omega) (by omega) t0 t1).mono ?_
  rintro e w7 ⟨rfl, cr7, b7, k7, m7⟩
  have B7 := Lib.hid b7
  have M7 := Lib.hid m7
  have K7 := Lib.hid k7
  clear b7 m7 k7 S6
  go_wp2_with fail
  go_end0
  have m8 : Mod [b, cr2] w2 w7 := (M6.out.mono (by simp)).trans M7.out
  refine ⟨rfl, SEvo.step K2.out M2.out ⟨cr7, B7.out, ?_, m8⟩⟩
  have hsz := M6.out.size
  rcases K7.out with e | e
  · exact .inl e
  · exact .inr (by omega)


end Go.Proofs.Ytcjklacfoldaoaa
