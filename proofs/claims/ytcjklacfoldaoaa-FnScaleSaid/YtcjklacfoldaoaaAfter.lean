/- Contract of afterRequest. Conditions: the breaker, its bed and its rules lie in their blocks, the numbers are in their ranges; if nothing has been cleared the request's bucket is still in the window. -/
import Derived.Test.YtcjklacfoldaoaaOn
namespace Go.Proofs.Ytcjklacfoldaoaa
open Go.RowKit
attribute [local go_sem ↓] Go.wp_at_zero Go.wp_at_succ

theorem succ_any (L : Loc) (cr : Nat) (r : Rules) (d : CB) (now age : Int) (chs : List (Int × Int)) (w : World) (h : Sys w L cr r d now chs) (hlen : chs.length ≤ 1000000) (hit : Hit d age) :
    Calls Try.prog 86 #[.pointer (some ⟨L.cb, 0, none⟩), .int .i64 d.state, .int .u64 age, .agg #[.int .u64 (NS now), .int .i64 (SEC now), .pointer none]] w fun e w' => e = .returned (.tuple #[]) ∧ Evo L r w cr w' (d.onSucc age now) now (chs ++ d.onSuccTold age) := by
  have a1 := h.ok.st0
  have a2 := h.ok.st1
  have hs : d.state = 0 ∨ d.state = 1 ∨ d.state = 2 := by omega
  rcases hs with hs | hs | hs
  · have e1 : d.onSucc age now = d.put Cnt.succ age := by unfold CB.onSucc; rw [if_pos hs]
    have e2 : d.onSuccTold age = [] := by unfold CB.onSuccTold; rw [if_neg (by omega)]
    rw [e1, e2, List.append_nil, hs]; exact succ_closed L cr r d now age chs w h hlen hit hs
  · by_cases hv : d.maxReq ≤ (d.put Cnt.succ age).rc.tot.g
    · have e1 : d.onSucc age now = ({ d.put Cnt.succ age with state := 0 } : CB).newGen now := by unfold CB.onSucc; rw [if_neg (by omega), if_pos hs, if_pos hv]
      have e2 : d.onSuccTold age = [(1, 0)] := by unfold CB.onSuccTold; rw [if_pos ⟨hs, hv⟩]
      rw [e1, e2, hs]; exact succ_shut L cr r d now age chs w h hlen hit hs hv
    · have e1 : d.onSucc age now = d.put Cnt.succ age := by unfold CB.onSucc; rw [if_neg (by omega), if_pos hs, if_neg hv]
      have e2 : d.onSuccTold age = [] := by unfold CB.onSuccTold; rw [if_neg (by simp [hv])]
      rw [e1, e2, List.append_nil, hs]; exact succ_stay L cr r d now age chs w h hlen hit hs (by omega)
  · have e1 : d.onSucc age now = d := by unfold CB.onSucc; rw [if_neg (by omega), if_neg (by omega)]
    have e2 : d.onSuccTold age = [] := by unfold CB.onSuccTold; rw [if_neg (by omega)]
    rw [e1, e2, List.append_nil, hs]; exact succ_open L cr r d now age chs w h hlen hit hs

theorem fail_any (L : Loc) (cr : Nat) (r : Rules) (d : CB) (now age : Int) (chs : List (Int × Int)) (w : World) (h : Sys w L cr r d now chs) (hlen : chs.length ≤ 1000000) (hit : Hit d age) :
    Calls Try.prog 87 #[.pointer (some ⟨L.cb, 0, none⟩), .int .i64 d.state, .int .u64 age, .agg #[.int .u64 (NS now), .int .i64 (SEC now), .pointer none]] w fun e w' => e = .returned (.tuple #[]) ∧ Evo L r w cr w' (d.onFail r age now) now (chs ++ d.onFailTold r age) := by
  have a1 := h.ok.st0
  have a2 := h.ok.st1
  have hs : d.state = 0 ∨ d.state = 1 ∨ d.state = 2 := by omega
  rcases hs with hs | hs | hs
  · cases hv : tripB r (d.put Cnt.fail age).rc.tot with
    | true =>
      have e1 : d.onFail r age now = ({ d.put Cnt.fail age with state := 2 } : CB).newGen now := by unfold CB.onFail; rw [if_pos hs, if_pos hv]
      have e2 : d.onFailTold r age = [(0, 2)] := by unfold CB.onFailTold; rw [if_pos hs, if_pos hv]
      rw [e1, e2, hs]; exact fail_trip L cr r d now age chs w h hlen hit hs hv
    | false =>
      have e1 : d.onFail r age now = d.put Cnt.fail age := by unfold CB.onFail; rw [if_pos hs, if_neg (by simp [hv])]
      have e2 : d.onFailTold r age = [] := by unfold CB.onFailTold; rw [if_pos hs, if_neg (by simp [hv])]
      rw [e1, e2, List.append_nil, hs]; exact fail_stay L cr r d now age chs w h hlen hit hs hv
  · have e1 : d.onFail r age now = ({ d with state := 2 } : CB).newGen now := by unfold CB.onFail; rw [if_neg (by omega), if_pos hs]
    have e2 : d.onFailTold r age = [(1, 2)] := by unfold CB.onFailTold; rw [if_neg (by omega), if_pos hs]
    rw [e1, e2, hs]; exact fail_half L cr r d now age chs w h hlen hit hs
  · have e1 : d.onFail r age now = d := by unfold CB.onFail; rw [if_neg (by omega), if_neg (by omega)]
    have e2 : d.onFailTold r age = [] := by unfold CB.onFailTold; rw [if_neg (by omega), if_neg (by omega)]
    rw [e1, e2, List.append_nil, hs]; exact fail_open L cr r d now age chs w h hlen hit hs

set_option maxHeartbeats 1000000 in
theorem excl_any (L : Loc) (cr : Nat) (r : Rules) (d : CB) (now age : Int) (chs : List (Int × Int)) (w : World) (h : Sys w L cr r d now chs) (hit : Hit d age) :
    Calls Try.prog 85 #[.pointer (some ⟨L.cb, 0, none⟩), .int .u64 age] w fun e w' => e = .returned (.tuple #[]) ∧ Evo L r w cr w' (d.put Cnt.excl age) now chs := by
  have HS := Lib.hid h
  have HH := Lib.hid hit
  obtain ⟨hc, hf⟩ := h.cb.cells
  have g12 := hc 12
  simp at g12
  clear h hc hf hit
  go_enter Try.func85, Try.ntmps85
  go_wp2_with fail
  refine (rcExcl_hit L.rc L.bk d.rc age _ HS.out.cb.rc ⟨HS.out.ok.pos, HS.out.ok.few, HS.out.ok.age0, HS.out.ok.age1⟩ HS.out.lok.rc_bk HH.out.lo HH.out.hi HH.out.near).mono ?_
  rintro e w2 ⟨rfl, hr2, hm2⟩
  have S2 := Lib.hid (HS.out.withCb (c' := d.put Cnt.excl age) (CBat.withRc (c := d) (hm2.heap HS.out.cb.cb (by simp [HS.out.lok.cb_rc, HS.out.lok.cb_bk])) hr2) (put_ok HS.out.ok Cnt.excl age) (hm2.mono (by simp)))
  have M2 := Lib.hid (hm2.mono (S' := [L.cb, L.rc, L.bk, L.bd, cr]) (by simp))
  clear hr2 hm2 g12
  go_wp2_with fail
  go_end0
  exact ⟨rfl, cr, S2.out, .inl rfl, M2.out⟩

namespace CB
/-- A request tells its error. -/
def after (c : CB) (r : Rules) (prev age n now : Int) : CB :=
  if (c.look now).gen ≠ prev then c.look now else if outB r n then (c.look now).put Cnt.excl age
  else if goodB r n then (c.look now).onSucc age now else (c.look now).onFail r age now
def afterTold (c : CB) (r : Rules) (prev age n now : Int) : List (Int × Int) :=
  c.lookTold now ++ (if (c.look now).gen ≠ prev then [] else if outB r n then [] else if goodB r n then (c.look now).onSuccTold age else (c.look now).onFailTold r age)
end CB

/-- A step behind a step that only made memory. -/
theorem Evo.join {L : Loc} {r : Rules} {w w1 w2 : World} {cr cr1 : Nat} {c2 : CB} {n2 : Int} {h2 : List (Int × Int)} (k : cr1 = cr ∨ w.heap.size ≤ cr1) (m : Mod [L.cb, L.rc, L.bk, L.bd, cr] w w1) (e : Evo L r w1 cr1 w2 c2 n2 h2) : Evo L r w cr w2 c2 n2 h2 := by
  obtain ⟨cr2, s2, k2, m2⟩ := e
  refine ⟨cr2, s2, ?_, ?_⟩
  · have := m.size
    rcases k2 with rfl | k2
    · exact k
    · exact .inr (by omega)
  · refine m.trans_new m2 ?_
    intro i hi
    simp at hi ⊢
    rcases hi with h | h | h | h | h
    · exact .inl (.inl h)
    · exact .inl (.inr (.inl h))
    · exact .inl (.inr (.inr (.inl h)))
    · exact .inl (.inr (.inr (.inr (.inl h))))
    · subst h; rcases k with e | e
      · exact .inl (.inr (.inr (.inr (.inr e))))
      · exact .inr e

set_option maxRecDepth 100000 in
set_option maxHeartbeats 2000000 in
theorem after_stale (L : Loc) (cr : Nat) (r : Rules) (c : CB) (now prev age n : Int) (v : Value) (chs : List (Int × Int)) (w : World) (h : Sys w L cr r c now chs) (hlen : chs.length ≤ 999999) (hw : Win c now) (hv : ErrIs v n) (hg : (c.look now).gen ≠ prev) :
    Calls Try.prog 61 #[.pointer (some ⟨L.cb, 0, none⟩), .int .u64 prev, .int .u64 age, v] w fun e w' => e = .returned (.tuple #[]) ∧ Evo L r w cr w' (c.look now) now (chs ++ c.lookTold now) := by
  have HS := Lib.hid h
  have HW := Lib.hid hw
  have HV := Lib.hid hv
  have HG := Lib.hid hg
  clear hg
  have HL := Lib.hid (show (chs ++ c.lookTold now).length ≤ 1000000 by
    have : (c.lookTold now).length ≤ 1 := by unfold CB.lookTold; split <;> simp
    simp; omega)
  obtain ⟨hc, hf⟩ := h.cb.cells
  have g0 := hc 0
  simp [nowV] at g0
  obtain ⟨z1, z2, z3, z4, z5, z6, z7⟩ := h.lts
  clear h hw hc hf hv
  go_enter Try.func61, Try.ntmps61
  go_wp2_with fail
  refine (now_any L cr now chs _ HS.out.bed HS.out.now0 HS.out.now1).mono ?_
  rintro e w1 ⟨rfl, hb1⟩
  have S1 := Lib.hid (HS.out.below hb1)
  have M1 := Lib.hid (show Mod [L.cb, L.rc, L.bk, L.bd, cr] w w1 from Mod.of_below hb1)
  clear hb1 g0
  go_wp2_with fail
  have S2 := Lib.hid (S1.out.alloc (Obj.cells #[Value.int IntKind.u64 (NS now), Value.int IntKind.i64 (SEC now), Value.pointer none] 118))
  have M2 := Lib.hid (M1.out.alloc (Obj.cells #[Value.int IntKind.u64 (NS now), Value.int IntKind.i64 (SEC now), Value.pointer none] 118))
  refine (look_any L cr r c now chs _ S2.out (by omega) HW.out).mono ?_
  rintro e w3 ⟨rfl, hev⟩
  have E3 := Lib.hid (Evo.after M2.out hev)
  have hgn : ((c.look now).gen != prev) = true := by simpa using HG.out
  clear hev
  go_wp2_with fail
  refine bodyPost_ret (results_none rfl _ _ _) rfl ?_
  exact ⟨rfl, E3.out⟩


set_option maxRecDepth 100000 in
set_option maxHeartbeats 2000000 in
theorem after_excl (L : Loc) (cr : Nat) (r : Rules) (c : CB) (now age n : Int) (v : Value) (chs : List (Int × Int)) (w : World) (h : Sys w L cr r c now chs) (hlen : chs.length ≤ 999999) (hw : Win c now) (hv : ErrIs v n) (ho : outB r n = true) (hh : Hit (c.look now) age) :
    Calls Try.prog 61 #[.pointer (some ⟨L.cb, 0, none⟩), .int .u64 (c.look now).gen, .int .u64 age, v] w fun e w' => e = .returned (.tuple #[]) ∧ Evo L r w cr w' ((c.look now).put Cnt.excl age) now (chs ++ c.lookTold now) := by
  have HS := Lib.hid h
  have HW := Lib.hid hw
  have HV := Lib.hid hv
  have HO := Lib.hid ho
  clear ho
  have HH := Lib.hid hh
  clear hh
  have HL := Lib.hid (show (chs ++ c.lookTold now).length ≤ 1000000 by
    have : (c.lookTold now).length ≤ 1 := by unfold CB.lookTold; split <;> simp
    simp; omega)
  obtain ⟨hc, hf⟩ := h.cb.cells
  have g0 := hc 0
  simp [nowV] at g0
  obtain ⟨z1, z2, z3, z4, z5, z6, z7⟩ := h.lts
  clear h hw hc hf hv
  go_enter Try.func61, Try.ntmps61
  go_wp2_with fail
  refine (now_any L cr now chs _ HS.out.bed HS.out.now0 HS.out.now1).mono ?_
  rintro e w1 ⟨rfl, hb1⟩
  have S1 := Lib.hid (HS.out.below hb1)
  have M1 := Lib.hid (show Mod [L.cb, L.rc, L.bk, L.bd, cr] w w1 from Mod.of_below hb1)
  clear hb1 g0
  go_wp2_with fail
  have S2 := Lib.hid (S1.out.alloc (Obj.cells #[Value.int IntKind.u64 (NS now), Value.int IntKind.i64 (SEC now), Value.pointer none] 118))
  have M2 := Lib.hid (M1.out.alloc (Obj.cells #[Value.int IntKind.u64 (NS now), Value.int IntKind.i64 (SEC now), Value.pointer none] 118))
  refine (look_any L cr r c now chs _ S2.out (by omega) HW.out).mono ?_
  rintro e w3 ⟨rfl, hev⟩
  have E3 := Lib.hid (Evo.after M2.out hev)
  obtain ⟨crx, sx, kx, mx⟩ := hev
  have zc := HS.out.crlt
  have zm := M1.out.size
  have hbx : w1.heap.size ∉ [L.cb, L.rc, L.bk, L.bd, cr] := by simp; omega
  obtain ⟨bx, _, hz3, B3⟩ := keptM mx (heap_alloc_new w1 _) hbx
  have BX := Lib.hid B3
  clear hbx B3 kx mx sx crx zc zm
  obtain ⟨crd, sd, kd, md⟩ := E3.out
  obtain ⟨og, ocap, hov, hoe, hoc⟩ := out_any L r sd.rok
  obtain ⟨gg, gcap, hgv, hge, hgc⟩ := good_any L r sd.rok
  obtain ⟨hc, hf⟩ := sd.cb.cells
  have g8 := hc 8
  simp at g8
  rw [hov] at g8
  have HGV := Lib.hid hgv
  have HOC := Lib.hid hoc
  have HGC := Lib.hid hgc
  have SD := Lib.hid sd
  have KD := Lib.hid kd
  have MD := Lib.hid md
  clear hov hoc hgv hgc sd kd md hc hf
  go_wp2_with fail
  refine (HOC.out v n _ SD.out.rs HV.out).mono ?_
  rintro e w4 ⟨rfl, hb4⟩
  rw [HO.out]
  have S4 := Lib.hid (SD.out.below hb4)
  have M4 := Lib.hid (MD.out.trans (Mod.of_below hb4))
  obtain ⟨by4, _, hz4, B4⟩ := kept hb4 BX.out
  have BX4 := Lib.hid B4
  clear hb4 B4 bx g8 by4
  go_wp2_with fail
  refine (excl_any L crd r (c.look now) now age _ _ S4.out HH.out).mono ?_
  rintro e w6 ⟨rfl, hev⟩
  have E6 := Lib.hid (Evo.join KD.out M4.out hev)
  clear hev
  go_wp2_with fail
  refine bodyPost_ret (results_none rfl _ _ _) rfl ?_
  exact ⟨rfl, E6.out⟩


set_option maxRecDepth 100000 in
set_option maxHeartbeats 2000000 in
theorem after_succ (L : Loc) (cr : Nat) (r : Rules) (c : CB) (now age n : Int) (v : Value) (chs : List (Int × Int)) (w : World) (h : Sys w L cr r c now chs) (hlen : chs.length ≤ 999999) (hw : Win c now) (hv : ErrIs v n) (ho : outB r n = false) (hb : goodB r n = true) (hh : Hit (c.look now) age) :
    Calls Try.prog 61 #[.pointer (some ⟨L.cb, 0, none⟩), .int .u64 (c.look now).gen, .int .u64 age, v] w fun e w' => e = .returned (.tuple #[]) ∧ Evo L r w cr w' ((c.look now).onSucc age now) now (chs ++ c.lookTold now ++ (c.look now).onSuccTold age) := by
  have HS := Lib.hid h
  have HW := Lib.hid hw
  have HV := Lib.hid hv
  have HO := Lib.hid ho
  clear ho
  have HB := Lib.hid hb
  clear hb
  have HH := Lib.hid hh
  clear hh
  have HL := Lib.hid (show (chs ++ c.lookTold now).length ≤ 1000000 by
    have : (c.lookTold now).length ≤ 1 := by unfold CB.lookTold; split <;> simp
    simp; omega)
  obtain ⟨hc, hf⟩ := h.cb.cells
  have g0 := hc 0
  simp [nowV] at g0
  obtain ⟨z1, z2, z3, z4, z5, z6, z7⟩ := h.lts
  clear h hw hc hf hv
  go_enter Try.func61, Try.ntmps61
  go_wp2_with fail
  refine (now_any L cr now chs _ HS.out.bed HS.out.now0 HS.out.now1).mono ?_
  rintro e w1 ⟨rfl, hb1⟩
  have S1 := Lib.hid (HS.out.below hb1)
  have M1 := Lib.hid (show Mod [L.cb, L.rc, L.bk, L.bd, cr] w w1 from Mod.of_below hb1)
  clear hb1 g0
  go_wp2_with fail
  have S2 := Lib.hid (S1.out.alloc (Obj.cells #[Value.int IntKind.u64 (NS now), Value.int IntKind.i64 (SEC now), Value.pointer none] 118))
  have M2 := Lib.hid (M1.out.alloc (Obj.cells #[Value.int IntKind.u64 (NS now), Value.int IntKind.i64 (SEC now), Value.pointer none] 118))
  refine (look_any L cr r c now chs _ S2.out (by omega) HW.out).mono ?_
  rintro e w3 ⟨rfl, hev⟩
  have E3 := Lib.hid (Evo.after M2.out hev)
  obtain ⟨crx, sx, kx, mx⟩ := hev
  have zc := HS.out.crlt
  have zm := M1.out.size
  have hbx : w1.heap.size ∉ [L.cb, L.rc, L.bk, L.bd, cr] := by simp; omega
  obtain ⟨bx, _, hz3, B3⟩ := keptM mx (heap_alloc_new w1 _) hbx
  have BX := Lib.hid B3
  clear hbx B3 kx mx sx crx zc zm
  obtain ⟨crd, sd, kd, md⟩ := E3.out
  obtain ⟨og, ocap, hov, hoe, hoc⟩ := out_any L r sd.rok
  obtain ⟨gg, gcap, hgv, hge, hgc⟩ := good_any L r sd.rok
  obtain ⟨hc, hf⟩ := sd.cb.cells
  have g8 := hc 8
  simp at g8
  rw [hov] at g8
  have HGV := Lib.hid hgv
  have HOC := Lib.hid hoc
  have HGC := Lib.hid hgc
  have SD := Lib.hid sd
  have KD := Lib.hid kd
  have MD := Lib.hid md
  clear hov hoc hgv hgc sd kd md hc hf
  go_wp2_with fail
  refine (HOC.out v n _ SD.out.rs HV.out).mono ?_
  rintro e w4 ⟨rfl, hb4⟩
  rw [HO.out]
  have S4 := Lib.hid (SD.out.below hb4)
  have M4 := Lib.hid (MD.out.trans (Mod.of_below hb4))
  obtain ⟨by4, _, hz4, B4⟩ := kept hb4 BX.out
  have BX4 := Lib.hid B4
  clear hb4 B4 bx g8 by4
  obtain ⟨hc, hf⟩ := S4.out.cb.cells
  have g7 := hc 7
  simp at g7
  rw [HGV.out] at g7
  clear hc hf
  go_wp2_with fail
  refine (HGC.out v n _ S4.out.rs HV.out).mono ?_
  rintro e w5 ⟨rfl, hb5⟩
  rw [HB.out]
  have S5 := Lib.hid (S4.out.below hb5)
  have M5 := Lib.hid (M4.out.trans (Mod.of_below hb5))
  obtain ⟨by5, _, hz5, B5⟩ := kept hb5 BX4.out
  have q0 := by5 0
  have q1 := by5 1
  have q2 := by5 2
  simp at q0 q1 q2
  clear hb5 B5 g7 by5
  go_wp2_with fail
  refine (succ_any L crd r (c.look now) now age _ _ S5.out HL.out HH.out).mono ?_
  rintro e w6 ⟨rfl, hev⟩
  have E6 := Lib.hid (Evo.join KD.out M5.out hev)
  clear hev
  go_wp2_with fail
  go_end0
  exact ⟨rfl, E6.out⟩


set_option maxRecDepth 100000 in
set_option maxHeartbeats 2000000 in
theorem after_fail (L : Loc) (cr : Nat) (r : Rules) (c : CB) (now age n : Int) (v : Value) (chs : List (Int × Int)) (w : World) (h : Sys w L cr r c now chs) (hlen : chs.length ≤ 999999) (hw : Win c now) (hv : ErrIs v n) (ho : outB r n = false) (hb : goodB r n = false) (hh : Hit (c.look now) age) :
    Calls Try.prog 61 #[.pointer (some ⟨L.cb, 0, none⟩), .int .u64 (c.look now).gen, .int .u64 age, v] w fun e w' => e = .returned (.tuple #[]) ∧ Evo L r w cr w' ((c.look now).onFail r age now) now (chs ++ c.lookTold now ++ (c.look now).onFailTold r age) := by
  have HS := Lib.hid h
  have HW := Lib.hid hw
  have HV := Lib.hid hv
  have HO := Lib.hid ho
  clear ho
  have HB := Lib.hid hb
  clear hb
  have HH := Lib.hid hh
  clear hh
  have HL := Lib.hid (show (chs ++ c.lookTold now).length ≤ 1000000 by
    have : (c.lookTold now).length ≤ 1 := by unfold CB.lookTold; split <;> simp
    simp; omega)
  obtain ⟨hc, hf⟩ := h.cb.cells
  have g0 := hc 0
  simp [nowV] at g0
  obtain ⟨z1, z2, z3, z4, z5, z6, z7⟩ := h.lts
  clear h hw hc hf hv
  go_enter Try.func61, Try.ntmps61
  go_wp2_with fail
  refine (now_any L cr now chs _ HS.out.bed HS.out.now0 HS.out.now1).mono ?_
  rintro e w1 ⟨rfl, hb1⟩
  have S1 := Lib.hid (HS.out.below hb1)
  have M1 := Lib.hid (show Mod [L.cb, L.rc, L.bk, L.bd, cr] w w1 from Mod.of_below hb1)
  clear hb1 g0
  go_wp2_with fail
  have S2 := Lib.hid (S1.out.alloc (Obj.cells #[Value.int IntKind.u64 (NS now), Value.int IntKind.i64 (SEC now), Value.pointer none] 118))
  have M2 := Lib.hid (M1.out.alloc (Obj.cells #[Value.int IntKind.u64 (NS now), Value.int IntKind.i64 (SEC now), Value.pointer none] 118))
  refine (look_any L cr r c now chs _ S2.out (by omega) HW.out).mono ?_
  rintro e w3 ⟨rfl, hev⟩
  have E3 := Lib.hid (Evo.after M2.out hev)
  obtain ⟨crx, sx, kx, mx⟩ := hev
  have zc := HS.out.crlt
  have zm := M1.out.size
  have hbx : w1.heap.size ∉ [L.cb, L.rc, L.bk, L.bd, cr] := by simp; omega
  obtain ⟨bx, _, hz3, B3⟩ := keptM mx (heap_alloc_new w1 _) hbx
  have BX := Lib.hid B3
  clear hbx B3 kx mx sx crx zc zm
  obtain ⟨crd, sd, kd, md⟩ := E3.out
  obtain ⟨og, ocap, hov, hoe, hoc⟩ := out_any L r sd.rok
  obtain ⟨gg, gcap, hgv, hge, hgc⟩ := good_any L r sd.rok
  obtain ⟨hc, hf⟩ := sd.cb.cells
  have g8 := hc 8
  simp at g8
  rw [hov] at g8
  have HGV := Lib.hid hgv
  have HOC := Lib.hid hoc
  have HGC := Lib.hid hgc
  have SD := Lib.hid sd
  have KD := Lib.hid kd
  have MD := Lib.hid md
  clear hov hoc hgv hgc sd kd md hc hf
  go_wp2_with fail
  refine (HOC.out v n _ SD.out.rs HV.out).mono ?_
  rintro e w4 ⟨rfl, hb4⟩
  rw [HO.out]
  have S4 := Lib.hid (SD.out.below hb4)
  have M4 := Lib.hid (MD.out.trans (Mod.of_below hb4))
  obtain ⟨by4, _, hz4, B4⟩ := kept hb4 BX.out
  have BX4 := Lib.hid B4
  clear hb4 B4 bx g8 by4
  obtain ⟨hc, hf⟩ := S4.out.cb.cells
  have g7 := hc 7
  simp at g7
  rw [HGV.out] at g7
  clear hc hf
  go_wp2_with fail
  refine (HGC.out v n _ S4.out.rs HV.out).mono ?_
  rintro e w5 ⟨rfl, hb5⟩
  rw [HB.out]
  have S5 := Lib.hid (S4.out.below hb5)
  have M5 := Lib.hid (M4.out.trans (Mod.of_below hb5))
  obtain ⟨by5, _, hz5, B5⟩ := kept hb5 BX4.out
  have q0 := by5 0
  have q1 := by5 1
  have q2 := by5 2
  simp at q0 q1 q2
  clear hb5 B5 g7 by5
  go_wp2_with fail
  refine (fail_any L crd r (c.look now) now age _ _ S5.out HL.out HH.out).mono ?_
  rintro e w6 ⟨rfl, hev⟩
  have E6 := Lib.hid (Evo.join KD.out M5.out hev)
  clear hev
  go_wp2_with fail
  go_end0
  exact ⟨rfl, E6.out⟩


theorem after_any (L : Loc) (cr : Nat) (r : Rules) (c : CB) (now prev age n : Int) (v : Value) (chs : List (Int × Int)) (w : World) (h : Sys w L cr r c now chs) (hlen : chs.length ≤ 999999) (hw : Win c now) (hv : ErrIs v n) (hit : (c.look now).gen = prev → Hit (c.look now) age) :
    Calls Try.prog 61 #[.pointer (some ⟨L.cb, 0, none⟩), .int .u64 prev, .int .u64 age, v] w fun e w' => e = .returned (.tuple #[]) ∧ Evo L r w cr w' (c.after r prev age n now) now (chs ++ c.afterTold r prev age n now) := by
  by_cases hg : (c.look now).gen = prev
  · have hh := hit hg
    subst hg
    cases ho : outB r n with
    | true =>
      have e1 : c.after r (c.look now).gen age n now = (c.look now).put Cnt.excl age := by unfold CB.after; rw [if_neg (by simp), if_pos ho]
      have e2 : c.afterTold r (c.look now).gen age n now = c.lookTold now := by unfold CB.afterTold; rw [if_neg (by simp), if_pos ho, List.append_nil]
      rw [e1, e2]; exact after_excl L cr r c now age n v chs w h hlen hw hv ho hh
    | false =>
      cases hb : goodB r n with
      | true =>
        have e1 : c.after r (c.look now).gen age n now = (c.look now).onSucc age now := by unfold CB.after; rw [if_neg (by simp), if_neg (by simp [ho]), if_pos hb]
        have e2 : chs ++ c.afterTold r (c.look now).gen age n now = chs ++ c.lookTold now ++ (c.look now).onSuccTold age := by unfold CB.afterTold; rw [if_neg (by simp), if_neg (by simp [ho]), if_pos hb, List.append_assoc]
        rw [e1, e2]; exact after_succ L cr r c now age n v chs w h hlen hw hv ho hb hh
      | false =>
        have e1 : c.after r (c.look now).gen age n now = (c.look now).onFail r age now := by unfold CB.after; rw [if_neg (by simp), if_neg (by simp [ho]), if_neg (by simp [hb])]
        have e2 : chs ++ c.afterTold r (c.look now).gen age n now = chs ++ c.lookTold now ++ (c.look now).onFailTold r age := by unfold CB.afterTold; rw [if_neg (by simp), if_neg (by simp [ho]), if_neg (by simp [hb]), List.append_assoc]
        rw [e1, e2]; exact after_fail L cr r c now age n v chs w h hlen hw hv ho hb hh
  · have e1 : c.after r prev age n now = c.look now := by unfold CB.after; rw [if_pos hg]
    have e2 : c.afterTold r prev age n now = c.lookTold now := by unfold CB.afterTold; rw [if_pos hg, List.append_nil]
    rw [e1, e2]; exact after_stale L cr r c now prev age n v chs w h hlen hw hv hg

end Go.Proofs.Ytcjklacfoldaoaa
