/- Contracts of onSuccess, onFailure, onExclusion. Conditions: the breaker, its bed and its rules lie in their blocks, the numbers are in their ranges; the request's bucket is still in the window. -/
import Derived.Test.YtcjklacfoldaoaaBefore
import Derived.Test.YtcjklacfoldaoaaRcOn
namespace Go.Proofs.Ytcjklacfoldaoaa
open Go.RowKit
attribute [local go_sem ↓] Go.wp_at_zero Go.wp_at_succ

/-- The request's bucket is still in the window. -/
structure Hit (d : CB) (age : Int) : Prop where
  lo : 0 ≤ age
  hi : age ≤ d.rc.age
  near : d.rc.age - age < d.rc.bs.length

namespace CB
def put (d : CB) (k : Cnt → Cnt) (age : Int) : CB := { d with rc := d.rc.on k age }
def onSucc (d : CB) (age now : Int) : CB :=
  if d.state = 0 then d.put Cnt.succ age
  else if d.state = 1 then (if d.maxReq ≤ (d.put Cnt.succ age).rc.tot.g then ({ d.put Cnt.succ age with state := 0 } : CB).newGen now else d.put Cnt.succ age)
  else d
def onSuccTold (d : CB) (age : Int) : List (Int × Int) := if d.state = 1 ∧ d.maxReq ≤ (d.put Cnt.succ age).rc.tot.g then [(1, 0)] else []
def onFail (d : CB) (r : Rules) (age now : Int) : CB :=
  if d.state = 0 then (if tripB r (d.put Cnt.fail age).rc.tot then ({ d.put Cnt.fail age with state := 2 } : CB).newGen now else d.put Cnt.fail age)
  else if d.state = 1 then ({ d with state := 2 } : CB).newGen now
  else d
def onFailTold (d : CB) (r : Rules) (age : Int) : List (Int × Int) := if d.state = 0 then (if tripB r (d.put Cnt.fail age).rc.tot then [(0, 2)] else []) else if d.state = 1 then [(1, 2)] else []
end CB

theorem put_ok {c : CB} (ok : c.Ok) (k : Cnt → Cnt) (age : Int) : (c.put k age).Ok := by
  have e : (c.rc.on k age).bs.length = c.rc.bs.length ∧ (c.rc.on k age).age = c.rc.age := by
    unfold RC.on; split
    · exact ⟨rfl, rfl⟩
    · split <;> simp
  exact ⟨by simpa [CB.put, e] using ok.pos, by simpa [CB.put, e] using ok.few, by simpa [CB.put, e] using ok.age0, by simpa [CB.put, e] using ok.age1, ok.int0, ok.int1, ok.per0, ok.per1, ok.tim0, ok.tim1, ok.st0, ok.st1⟩

set_option maxRecDepth 100000 in
set_option maxHeartbeats 2000000 in
theorem succ_closed (L : Loc) (cr : Nat) (r : Rules) (d : CB) (now age : Int) (chs : List (Int × Int)) (w : World) (h : Sys w L cr r d now chs) (_hlen : chs.length ≤ 1000000) (hit : Hit d age) (hst : d.state = 0) :
    Calls Try.prog 86 #[.pointer (some ⟨L.cb, 0, none⟩), .int .i64 0, .int .u64 age, .agg #[.int .u64 (NS now), .int .i64 (SEC now), .pointer none]] w fun e w' => e = .returned (.tuple #[]) ∧ Evo L r w cr w' (d.put Cnt.succ age) now (chs) := by
  have HS := Lib.hid h
  have HST := Lib.hid hst
  have HH := Lib.hid hit
  obtain ⟨hc, hf⟩ := h.cb.cells
  have g12 := hc 12
  simp at g12
  obtain ⟨z1, z2, z3, z4, z5, z6, z7⟩ := h.lts
  have S1 := Lib.hid (h.alloc (Obj.cells #[Value.int IntKind.u64 (NS now), Value.int IntKind.i64 (SEC now), Value.pointer none] 118))
  have M1 := Lib.hid ((Mod.refl [L.cb, L.rc, L.bk, L.bd, cr] w).alloc (Obj.cells #[Value.int IntKind.u64 (NS now), Value.int IntKind.i64 (SEC now), Value.pointer none] 118))
  have B1 := Lib.hid (heap_alloc_new w (Obj.cells #[Value.int IntKind.u64 (NS now), Value.int IntKind.i64 (SEC now), Value.pointer none] 118))
  clear h hc hf hst hit
  go_enter Try.func86, Try.ntmps86
  go_wp2_with fail
  refine (rcSucc_hit L.rc L.bk d.rc age _ S1.out.cb.rc ⟨S1.out.ok.pos, S1.out.ok.few, S1.out.ok.age0, S1.out.ok.age1⟩ S1.out.lok.rc_bk HH.out.lo HH.out.hi HH.out.near).mono ?_
  rintro e w2 ⟨rfl, hr2, hm2⟩
  have S2 := Lib.hid (S1.out.withCb (c' := d.put Cnt.succ age) (CBat.withRc (c := d) (hm2.heap S1.out.cb.cb (by simp [S1.out.lok.cb_rc, S1.out.lok.cb_bk])) hr2) (put_ok S1.out.ok Cnt.succ age) (hm2.mono (by simp)))
  have M2 := Lib.hid (M1.out.trans (hm2.mono (by simp)))
  have hbx : w.heap.size ∉ [L.rc, L.bk] := by simp; omega
  obtain ⟨bx, _, hz2, B2⟩ := keptM hm2 B1.out hbx
  have BX := Lib.hid B2
  clear hr2 hm2 g12 hbx B2
  clear bx
  go_wp2_with fail
  go_end0
  exact ⟨rfl, cr, S2.out, .inl rfl, M2.out⟩

set_option maxRecDepth 100000 in
set_option maxHeartbeats 2000000 in
theorem succ_stay (L : Loc) (cr : Nat) (r : Rules) (d : CB) (now age : Int) (chs : List (Int × Int)) (w : World) (h : Sys w L cr r d now chs) (_hlen : chs.length ≤ 1000000) (hit : Hit d age) (hst : d.state = 1) (hv : (d.put Cnt.succ age).rc.tot.g < d.maxReq) :
    Calls Try.prog 86 #[.pointer (some ⟨L.cb, 0, none⟩), .int .i64 1, .int .u64 age, .agg #[.int .u64 (NS now), .int .i64 (SEC now), .pointer none]] w fun e w' => e = .returned (.tuple #[]) ∧ Evo L r w cr w' (d.put Cnt.succ age) now (chs) := by
  have HS := Lib.hid h
  have HST := Lib.hid hst
  have HH := Lib.hid hit
  have HV := Lib.hid hv
  clear hv
  obtain ⟨hc, hf⟩ := h.cb.cells
  have g12 := hc 12
  simp at g12
  obtain ⟨z1, z2, z3, z4, z5, z6, z7⟩ := h.lts
  have S1 := Lib.hid (h.alloc (Obj.cells #[Value.int IntKind.u64 (NS now), Value.int IntKind.i64 (SEC now), Value.pointer none] 118))
  have M1 := Lib.hid ((Mod.refl [L.cb, L.rc, L.bk, L.bd, cr] w).alloc (Obj.cells #[Value.int IntKind.u64 (NS now), Value.int IntKind.i64 (SEC now), Value.pointer none] 118))
  have B1 := Lib.hid (heap_alloc_new w (Obj.cells #[Value.int IntKind.u64 (NS now), Value.int IntKind.i64 (SEC now), Value.pointer none] 118))
  clear h hc hf hst hit
  go_enter Try.func86, Try.ntmps86
  go_wp2_with fail
  refine (rcSucc_hit L.rc L.bk d.rc age _ S1.out.cb.rc ⟨S1.out.ok.pos, S1.out.ok.few, S1.out.ok.age0, S1.out.ok.age1⟩ S1.out.lok.rc_bk HH.out.lo HH.out.hi HH.out.near).mono ?_
  rintro e w2 ⟨rfl, hr2, hm2⟩
  have S2 := Lib.hid (S1.out.withCb (c' := d.put Cnt.succ age) (CBat.withRc (c := d) (hm2.heap S1.out.cb.cb (by simp [S1.out.lok.cb_rc, S1.out.lok.cb_bk])) hr2) (put_ok S1.out.ok Cnt.succ age) (hm2.mono (by simp)))
  have M2 := Lib.hid (M1.out.trans (hm2.mono (by simp)))
  have hbx : w.heap.size ∉ [L.rc, L.bk] := by simp; omega
  obtain ⟨bx, _, hz2, B2⟩ := keptM hm2 B1.out hbx
  have BX := Lib.hid B2
  clear hr2 hm2 g12 hbx B2
  have q0 := bx 0
  have q1 := bx 1
  have q2 := bx 2
  obtain ⟨hc, hf⟩ := S2.out.cb.cells
  have g2 := hc 2
  have g12 := hc 12
  have r4 := S2.out.cb.rc.cells.1 4
  simp at q0 q1 q2
  simp [CB.put] at g2 g12 r4
  clear hc hf bx
  go_wp2_with fail
  have hv : ¬ d.maxReq ≤ (d.rc.on Cnt.succ age).tot.g := by have := HV.out; simp only [CB.put] at this; omega
  go_quiet (fail)
  go_wp2_with fail
  go_end0
  exact ⟨rfl, cr, S2.out.drewN _, .inl rfl, M2.out.drewN _⟩

set_option maxRecDepth 100000 in
set_option maxHeartbeats 2000000 in
theorem succ_shut (L : Loc) (cr : Nat) (r : Rules) (d : CB) (now age : Int) (chs : List (Int × Int)) (w : World) (h : Sys w L cr r d now chs) (hlen : chs.length ≤ 1000000) (hit : Hit d age) (hst : d.state = 1) (hv : d.maxReq ≤ (d.put Cnt.succ age).rc.tot.g) :
    Calls Try.prog 86 #[.pointer (some ⟨L.cb, 0, none⟩), .int .i64 1, .int .u64 age, .agg #[.int .u64 (NS now), .int .i64 (SEC now), .pointer none]] w fun e w' => e = .returned (.tuple #[]) ∧ Evo L r w cr w' (({ d.put Cnt.succ age with state := 0 } : CB).newGen now) now (chs ++ [(1, 0)]) := by
  have HS := Lib.hid h
  have HST := Lib.hid hst
  have HH := Lib.hid hit
  have HV := Lib.hid hv
  clear hv
  obtain ⟨hc, hf⟩ := h.cb.cells
  have g12 := hc 12
  simp at g12
  obtain ⟨z1, z2, z3, z4, z5, z6, z7⟩ := h.lts
  have S1 := Lib.hid (h.alloc (Obj.cells #[Value.int IntKind.u64 (NS now), Value.int IntKind.i64 (SEC now), Value.pointer none] 118))
  have M1 := Lib.hid ((Mod.refl [L.cb, L.rc, L.bk, L.bd, cr] w).alloc (Obj.cells #[Value.int IntKind.u64 (NS now), Value.int IntKind.i64 (SEC now), Value.pointer none] 118))
  have B1 := Lib.hid (heap_alloc_new w (Obj.cells #[Value.int IntKind.u64 (NS now), Value.int IntKind.i64 (SEC now), Value.pointer none] 118))
  clear h hc hf hst hit
  go_enter Try.func86, Try.ntmps86
  go_wp2_with fail
  refine (rcSucc_hit L.rc L.bk d.rc age _ S1.out.cb.rc ⟨S1.out.ok.pos, S1.out.ok.few, S1.out.ok.age0, S1.out.ok.age1⟩ S1.out.lok.rc_bk HH.out.lo HH.out.hi HH.out.near).mono ?_
  rintro e w2 ⟨rfl, hr2, hm2⟩
  have S2 := Lib.hid (S1.out.withCb (c' := d.put Cnt.succ age) (CBat.withRc (c := d) (hm2.heap S1.out.cb.cb (by simp [S1.out.lok.cb_rc, S1.out.lok.cb_bk])) hr2) (put_ok S1.out.ok Cnt.succ age) (hm2.mono (by simp)))
  have M2 := Lib.hid (M1.out.trans (hm2.mono (by simp)))
  have hbx : w.heap.size ∉ [L.rc, L.bk] := by simp; omega
  obtain ⟨bx, _, hz2, B2⟩ := keptM hm2 B1.out hbx
  have BX := Lib.hid B2
  clear hr2 hm2 g12 hbx B2
  have q0 := bx 0
  have q1 := bx 1
  have q2 := bx 2
  obtain ⟨hc, hf⟩ := S2.out.cb.cells
  have g2 := hc 2
  have g12 := hc 12
  have r4 := S2.out.cb.rc.cells.1 4
  simp at q0 q1 q2
  simp [CB.put] at g2 g12 r4
  clear hc hf bx
  go_wp2_with fail
  have hv : d.maxReq ≤ (d.rc.on Cnt.succ age).tot.g := by have := HV.out; simp only [CB.put] at this; omega
  go_quiet (fail)
  go_wp2_with fail
  refine (setState_any L cr r (d.put Cnt.succ age) now chs 0 _ (S2.out.drewN nq) hlen (by omega) (by omega) (by have := HST.out; simp only [CB.put]; omega)).mono ?_
  rintro e w3 ⟨rfl, hev⟩
  have e0 : (d.put Cnt.succ age).state = 1 := HST.out
  rw [e0] at hev
  have E3 := Lib.hid (Evo.after (M2.out.drewN nq) hev)
  clear hev e0 g2 g12 r4 q0 q1 q2
  go_wp2_with fail
  go_end0
  exact ⟨rfl, E3.out⟩

set_option maxRecDepth 100000 in
set_option maxHeartbeats 2000000 in
theorem succ_open (L : Loc) (cr : Nat) (r : Rules) (d : CB) (now age : Int) (chs : List (Int × Int)) (w : World) (h : Sys w L cr r d now chs) (_hlen : chs.length ≤ 1000000) (hit : Hit d age) (hst : d.state = 2) :
    Calls Try.prog 86 #[.pointer (some ⟨L.cb, 0, none⟩), .int .i64 2, .int .u64 age, .agg #[.int .u64 (NS now), .int .i64 (SEC now), .pointer none]] w fun e w' => e = .returned (.tuple #[]) ∧ Evo L r w cr w' (d) now (chs) := by
  have HS := Lib.hid h
  have HST := Lib.hid hst
  have HH := Lib.hid hit
  obtain ⟨hc, hf⟩ := h.cb.cells
  have g12 := hc 12
  simp at g12
  obtain ⟨z1, z2, z3, z4, z5, z6, z7⟩ := h.lts
  have S1 := Lib.hid (h.alloc (Obj.cells #[Value.int IntKind.u64 (NS now), Value.int IntKind.i64 (SEC now), Value.pointer none] 118))
  have M1 := Lib.hid ((Mod.refl [L.cb, L.rc, L.bk, L.bd, cr] w).alloc (Obj.cells #[Value.int IntKind.u64 (NS now), Value.int IntKind.i64 (SEC now), Value.pointer none] 118))
  have B1 := Lib.hid (heap_alloc_new w (Obj.cells #[Value.int IntKind.u64 (NS now), Value.int IntKind.i64 (SEC now), Value.pointer none] 118))
  clear h hc hf hst hit
  go_enter Try.func86, Try.ntmps86
  go_wp2_with fail
  go_end0
  exact ⟨rfl, cr, S1.out, .inl rfl, M1.out⟩

set_option maxRecDepth 100000 in
set_option maxHeartbeats 2000000 in
theorem fail_open (L : Loc) (cr : Nat) (r : Rules) (d : CB) (now age : Int) (chs : List (Int × Int)) (w : World) (h : Sys w L cr r d now chs) (_hlen : chs.length ≤ 1000000) (hit : Hit d age) (hst : d.state = 2) :
    Calls Try.prog 87 #[.pointer (some ⟨L.cb, 0, none⟩), .int .i64 2, .int .u64 age, .agg #[.int .u64 (NS now), .int .i64 (SEC now), .pointer none]] w fun e w' => e = .returned (.tuple #[]) ∧ Evo L r w cr w' (d) now (chs) := by
  have HS := Lib.hid h
  have HST := Lib.hid hst
  have HH := Lib.hid hit
  obtain ⟨hc, hf⟩ := h.cb.cells
  have g12 := hc 12
  simp at g12
  obtain ⟨z1, z2, z3, z4, z5, z6, z7⟩ := h.lts
  have S1 := Lib.hid (h.alloc (Obj.cells #[Value.int IntKind.u64 (NS now), Value.int IntKind.i64 (SEC now), Value.pointer none] 118))
  have M1 := Lib.hid ((Mod.refl [L.cb, L.rc, L.bk, L.bd, cr] w).alloc (Obj.cells #[Value.int IntKind.u64 (NS now), Value.int IntKind.i64 (SEC now), Value.pointer none] 118))
  have B1 := Lib.hid (heap_alloc_new w (Obj.cells #[Value.int IntKind.u64 (NS now), Value.int IntKind.i64 (SEC now), Value.pointer none] 118))
  clear h hc hf hst hit
  go_enter Try.func87, Try.ntmps87
  go_wp2_with fail
  go_end0
  exact ⟨rfl, cr, S1.out, .inl rfl, M1.out⟩

set_option maxRecDepth 100000 in
set_option maxHeartbeats 2000000 in
theorem fail_half (L : Loc) (cr : Nat) (r : Rules) (d : CB) (now age : Int) (chs : List (Int × Int)) (w : World) (h : Sys w L cr r d now chs) (hlen : chs.length ≤ 1000000) (hit : Hit d age) (hst : d.state = 1) :
    Calls Try.prog 87 #[.pointer (some ⟨L.cb, 0, none⟩), .int .i64 1, .int .u64 age, .agg #[.int .u64 (NS now), .int .i64 (SEC now), .pointer none]] w fun e w' => e = .returned (.tuple #[]) ∧ Evo L r w cr w' (({ d with state := 2 } : CB).newGen now) now (chs ++ [(1, 2)]) := by
  have HS := Lib.hid h
  have HST := Lib.hid hst
  have HH := Lib.hid hit
  obtain ⟨hc, hf⟩ := h.cb.cells
  have g12 := hc 12
  simp at g12
  obtain ⟨z1, z2, z3, z4, z5, z6, z7⟩ := h.lts
  have S1 := Lib.hid (h.alloc (Obj.cells #[Value.int IntKind.u64 (NS now), Value.int IntKind.i64 (SEC now), Value.pointer none] 118))
  have M1 := Lib.hid ((Mod.refl [L.cb, L.rc, L.bk, L.bd, cr] w).alloc (Obj.cells #[Value.int IntKind.u64 (NS now), Value.int IntKind.i64 (SEC now), Value.pointer none] 118))
  have B1 := Lib.hid (heap_alloc_new w (Obj.cells #[Value.int IntKind.u64 (NS now), Value.int IntKind.i64 (SEC now), Value.pointer none] 118))
  clear h hc hf hst hit
  go_enter Try.func87, Try.ntmps87
  go_wp2_with fail
  refine (setState_any L cr r d now chs 2 _ S1.out hlen (by omega) (by omega) (by have := HST.out; omega)).mono ?_
  rintro e w3 ⟨rfl, hev⟩
  rw [HST.out] at hev
  have E3 := Lib.hid (Evo.after M1.out hev)
  clear hev g12
  go_wp2_with fail
  go_end0
  exact ⟨rfl, E3.out⟩

set_option maxRecDepth 100000 in
set_option maxHeartbeats 2000000 in
theorem fail_stay (L : Loc) (cr : Nat) (r : Rules) (d : CB) (now age : Int) (chs : List (Int × Int)) (w : World) (h : Sys w L cr r d now chs) (_hlen : chs.length ≤ 1000000) (hit : Hit d age) (hst : d.state = 0) (ht : tripB r (d.put Cnt.fail age).rc.tot = false) :
    Calls Try.prog 87 #[.pointer (some ⟨L.cb, 0, none⟩), .int .i64 0, .int .u64 age, .agg #[.int .u64 (NS now), .int .i64 (SEC now), .pointer none]] w fun e w' => e = .returned (.tuple #[]) ∧ Evo L r w cr w' (d.put Cnt.fail age) now (chs) := by
  have HS := Lib.hid h
  have HST := Lib.hid hst
  have HH := Lib.hid hit
  have HT := Lib.hid ht
  clear ht
  obtain ⟨hc, hf⟩ := h.cb.cells
  have g12 := hc 12
  simp at g12
  obtain ⟨z1, z2, z3, z4, z5, z6, z7⟩ := h.lts
  have S1 := Lib.hid (h.alloc (Obj.cells #[Value.int IntKind.u64 (NS now), Value.int IntKind.i64 (SEC now), Value.pointer none] 118))
  have M1 := Lib.hid ((Mod.refl [L.cb, L.rc, L.bk, L.bd, cr] w).alloc (Obj.cells #[Value.int IntKind.u64 (NS now), Value.int IntKind.i64 (SEC now), Value.pointer none] 118))
  have B1 := Lib.hid (heap_alloc_new w (Obj.cells #[Value.int IntKind.u64 (NS now), Value.int IntKind.i64 (SEC now), Value.pointer none] 118))
  clear h hc hf hst hit
  go_enter Try.func87, Try.ntmps87
  go_wp2_with fail
  refine (rcFail_hit L.rc L.bk d.rc age _ S1.out.cb.rc ⟨S1.out.ok.pos, S1.out.ok.few, S1.out.ok.age0, S1.out.ok.age1⟩ S1.out.lok.rc_bk HH.out.lo HH.out.hi HH.out.near).mono ?_
  rintro e w2 ⟨rfl, hr2, hm2⟩
  have S2 := Lib.hid (S1.out.withCb (c' := d.put Cnt.fail age) (CBat.withRc (c := d) (hm2.heap S1.out.cb.cb (by simp [S1.out.lok.cb_rc, S1.out.lok.cb_bk])) hr2) (put_ok S1.out.ok Cnt.fail age) (hm2.mono (by simp)))
  have M2 := Lib.hid (M1.out.trans (hm2.mono (by simp)))
  have hbx : w.heap.size ∉ [L.rc, L.bk] := by simp; omega
  obtain ⟨bx, _, hz2, B2⟩ := keptM hm2 B1.out hbx
  have BX := Lib.hid B2
  clear hr2 hm2 g12 hbx B2
  obtain ⟨tg, cap, htv, hte, htc⟩ := trip_any L r
  have q0 := bx 0
  have q1 := bx 1
  have q2 := bx 2
  obtain ⟨hc, hf⟩ := S2.out.cb.cells
  have g6 := hc 6
  have g12 := hc 12
  have rr := S2.out.cb.rc.cells.1
  have r0 := rr 0
  have r1 := rr 1
  have r2 := rr 2
  have r3 := rr 3
  have r4 := rr 4
  have r5 := rr 5
  simp at q0 q1 q2 g6
  simp [CB.put] at g12 r0 r1 r2 r3 r4 r5
  rw [htv] at g6
  have HTV := Lib.hid htv
  have HTC := Lib.hid htc
  clear hc hf bx rr htv htc
  have htb : tripB r (d.rc.on Cnt.fail age).tot = false := HT.out
  have HTB := Lib.hid htb
  clear htb
  go_wp2_with fail
  go_region_held3 (fun w' => w'.cell? ⟨L.cb, 6, none⟩ = some (.func (.func tg) #[] cap) ∧ w'.cell? ⟨L.cb, 12, none⟩ = some (.pointer (some ⟨L.rc, 0, none⟩)) ∧ w'.cell? ⟨L.rc, 0, none⟩ = some (.int .u32 (d.rc.on Cnt.fail age).tot.r) ∧ w'.cell? ⟨L.rc, 1, none⟩ = some (.int .u32 (d.rc.on Cnt.fail age).tot.s) ∧ w'.cell? ⟨L.rc, 2, none⟩ = some (.int .u32 (d.rc.on Cnt.fail age).tot.f) ∧ w'.cell? ⟨L.rc, 3, none⟩ = some (.int .u32 (d.rc.on Cnt.fail age).tot.x) ∧ w'.cell? ⟨L.rc, 4, none⟩ = some (.int .u32 (d.rc.on Cnt.fail age).tot.g) ∧ w'.cell? ⟨L.rc, 5, none⟩ = some (.int .u32 (d.rc.on Cnt.fail age).tot.h)) (first | (go_keep; done) | ((try dsimp only); exact ⟨a6, a12, b0, b1, b2, b3, b4, b5⟩))
    ((first | (refine (HTC.out (d.rc.on Cnt.fail age).tot _ (by exact S2.out.drew.rb)).mono ?_; rintro e w3 ⟨rfl, hb3⟩; rw [HTB.out]; have S3 := Lib.hid (S2.out.drew.below hb3); have M3 := Lib.hid (M2.out.drew.trans (Mod.of_below hb3)); obtain ⟨cc, _⟩ := S3.out.cb.cells; have a6 := cc 6; have a12 := cc 12; rw [HTV.out] at a6; obtain ⟨b, _⟩ := S3.out.cb.rc.cells; have b0 := b 0; have b1 := b 1; have b2 := b 2; have b3 := b 3; have b4 := b 4; have b5 := b 5; obtain ⟨bx, _, hz3, _⟩ := kept hb3 (heap_drew BX.out); have q0 := bx 0; have q1 := bx 1; have q2 := bx 2; simp at q0 q1 q2; simp at a6 a12; simp [CB.put] at b0 b1 b2 b3 b4 b5; clear cc b bx)))
  clear g6 g12 r0 r1 r2 r3 r4 r5 a6 a12 b0 b1 b2 b3 b4 b5
  go_wp2_with fail
  go_end0
  exact ⟨rfl, cr, S3.out, .inl rfl, M3.out⟩

set_option maxRecDepth 100000 in
set_option maxHeartbeats 2000000 in
theorem fail_trip (L : Loc) (cr : Nat) (r : Rules) (d : CB) (now age : Int) (chs : List (Int × Int)) (w : World) (h : Sys w L cr r d now chs) (hlen : chs.length ≤ 1000000) (hit : Hit d age) (hst : d.state = 0) (ht : tripB r (d.put Cnt.fail age).rc.tot = true) :
    Calls Try.prog 87 #[.pointer (some ⟨L.cb, 0, none⟩), .int .i64 0, .int .u64 age, .agg #[.int .u64 (NS now), .int .i64 (SEC now), .pointer none]] w fun e w' => e = .returned (.tuple #[]) ∧ Evo L r w cr w' (({ d.put Cnt.fail age with state := 2 } : CB).newGen now) now (chs ++ [(0, 2)]) := by
  have HS := Lib.hid h
  have HST := Lib.hid hst
  have HH := Lib.hid hit
  have HT := Lib.hid ht
  clear ht
  obtain ⟨hc, hf⟩ := h.cb.cells
  have g12 := hc 12
  simp at g12
  obtain ⟨z1, z2, z3, z4, z5, z6, z7⟩ := h.lts
  have S1 := Lib.hid (h.alloc (Obj.cells #[Value.int IntKind.u64 (NS now), Value.int IntKind.i64 (SEC now), Value.pointer none] 118))
  have M1 := Lib.hid ((Mod.refl [L.cb, L.rc, L.bk, L.bd, cr] w).alloc (Obj.cells #[Value.int IntKind.u64 (NS now), Value.int IntKind.i64 (SEC now), Value.pointer none] 118))
  have B1 := Lib.hid (heap_alloc_new w (Obj.cells #[Value.int IntKind.u64 (NS now), Value.int IntKind.i64 (SEC now), Value.pointer none] 118))
  clear h hc hf hst hit
  go_enter Try.func87, Try.ntmps87
  go_wp2_with fail
  refine (rcFail_hit L.rc L.bk d.rc age _ S1.out.cb.rc ⟨S1.out.ok.pos, S1.out.ok.few, S1.out.ok.age0, S1.out.ok.age1⟩ S1.out.lok.rc_bk HH.out.lo HH.out.hi HH.out.near).mono ?_
  rintro e w2 ⟨rfl, hr2, hm2⟩
  have S2 := Lib.hid (S1.out.withCb (c' := d.put Cnt.fail age) (CBat.withRc (c := d) (hm2.heap S1.out.cb.cb (by simp [S1.out.lok.cb_rc, S1.out.lok.cb_bk])) hr2) (put_ok S1.out.ok Cnt.fail age) (hm2.mono (by simp)))
  have M2 := Lib.hid (M1.out.trans (hm2.mono (by simp)))
  have hbx : w.heap.size ∉ [L.rc, L.bk] := by simp; omega
  obtain ⟨bx, _, hz2, B2⟩ := keptM hm2 B1.out hbx
  have BX := Lib.hid B2
  clear hr2 hm2 g12 hbx B2
  obtain ⟨tg, cap, htv, hte, htc⟩ := trip_any L r
  have q0 := bx 0
  have q1 := bx 1
  have q2 := bx 2
  obtain ⟨hc, hf⟩ := S2.out.cb.cells
  have g6 := hc 6
  have g12 := hc 12
  have rr := S2.out.cb.rc.cells.1
  have r0 := rr 0
  have r1 := rr 1
  have r2 := rr 2
  have r3 := rr 3
  have r4 := rr 4
  have r5 := rr 5
  simp at q0 q1 q2 g6
  simp [CB.put] at g12 r0 r1 r2 r3 r4 r5
  rw [htv] at g6
  have HTV := Lib.hid htv
  have HTC := Lib.hid htc
  clear hc hf bx rr htv htc
  have htb : tripB r (d.rc.on Cnt.fail age).tot = true := HT.out
  have HTB := Lib.hid htb
  clear htb
  go_wp2_with fail
  go_region_held3 (fun w' => w'.cell? ⟨L.cb, 6, none⟩ = some (.func (.func tg) #[] cap) ∧ w'.cell? ⟨L.cb, 12, none⟩ = some (.pointer (some ⟨L.rc, 0, none⟩)) ∧ w'.cell? ⟨L.rc, 0, none⟩ = some (.int .u32 (d.rc.on Cnt.fail age).tot.r) ∧ w'.cell? ⟨L.rc, 1, none⟩ = some (.int .u32 (d.rc.on Cnt.fail age).tot.s) ∧ w'.cell? ⟨L.rc, 2, none⟩ = some (.int .u32 (d.rc.on Cnt.fail age).tot.f) ∧ w'.cell? ⟨L.rc, 3, none⟩ = some (.int .u32 (d.rc.on Cnt.fail age).tot.x) ∧ w'.cell? ⟨L.rc, 4, none⟩ = some (.int .u32 (d.rc.on Cnt.fail age).tot.g) ∧ w'.cell? ⟨L.rc, 5, none⟩ = some (.int .u32 (d.rc.on Cnt.fail age).tot.h)) (first | (go_keep; done) | ((try dsimp only); exact ⟨a6, a12, b0, b1, b2, b3, b4, b5⟩))
    ((first | (refine (HTC.out (d.rc.on Cnt.fail age).tot _ (by exact S2.out.drew.rb)).mono ?_; rintro e w3 ⟨rfl, hb3⟩; rw [HTB.out]; have S3 := Lib.hid (S2.out.drew.below hb3); have M3 := Lib.hid (M2.out.drew.trans (Mod.of_below hb3)); obtain ⟨cc, _⟩ := S3.out.cb.cells; have a6 := cc 6; have a12 := cc 12; rw [HTV.out] at a6; obtain ⟨b, _⟩ := S3.out.cb.rc.cells; have b0 := b 0; have b1 := b 1; have b2 := b 2; have b3 := b 3; have b4 := b 4; have b5 := b 5; obtain ⟨bx, _, hz3, _⟩ := kept hb3 (heap_drew BX.out); have q0 := bx 0; have q1 := bx 1; have q2 := bx 2; simp at q0 q1 q2; simp at a6 a12; simp [CB.put] at b0 b1 b2 b3 b4 b5; clear cc b bx)))
  clear g6 g12 r0 r1 r2 r3 r4 r5 a6 a12 b0 b1 b2 b3 b4 b5
  go_wp2_with fail
  refine (setState_any L cr r (d.put Cnt.fail age) now chs 2 _ S3.out hlen (by omega) (by omega) (by have := HST.out; simp only [CB.put]; omega)).mono ?_
  rintro e w4 ⟨rfl, hev⟩
  have e0 : (d.put Cnt.fail age).state = 0 := HST.out
  rw [e0] at hev
  have E4 := Lib.hid (Evo.after M3.out hev)
  clear hev e0
  go_wp2_with fail
  go_end0
  exact ⟨rfl, E4.out⟩

end Go.Proofs.Ytcjklacfoldaoaa
