/- Contract of beforeRequest. Conditions: the breaker, its bed and its rules lie in their blocks, the numbers are in their ranges. -/
import Derived.Test.YtcjklacfoldaoaaLook
namespace Go.Proofs.Ytcjklacfoldaoaa
open Go.RowKit
attribute [local go_sem ↓] Go.wp_at_zero Go.wp_at_succ

theorem look_ok {L : Loc} {r : Rules} {w w' : World} {cr : Nat} {c : CB} {now : Int} {chs : List (Int × Int)} (h : Evo L r w cr w' c now chs) : c.Ok := by
  obtain ⟨_, s, _⟩ := h; exact s.ok

set_option maxRecDepth 100000 in
set_option maxHeartbeats 2000000 in
theorem before_open (L : Loc) (cr : Nat) (r : Rules) (c : CB) (now : Int) (chs : List (Int × Int)) (w : World) (h : Sys w L cr r c now chs) (hlen : chs.length ≤ 1000000) (hw : Win c now) (hst : (c.look now).state = 2) :
    Calls Try.prog 59 #[.pointer (some ⟨L.cb, 0, none⟩)] w fun e w' => e = .returned (.tuple #[.int .u64 (c.look now).gen, .int .u64 (c.look now).rc.age, codeV 1]) ∧ Evo L r w cr w' (c.look now) now (chs ++ c.lookTold now) := by
  have HS := Lib.hid h
  have HW := Lib.hid hw
  obtain ⟨hc, hf⟩ := h.cb.cells
  have g0 := hc 0
  simp [nowV] at g0
  obtain ⟨z1, z2, z3, z4, z5, z6, z7⟩ := h.lts
  have HST := Lib.hid hst
  clear h hw hc hf hst
  go_enter Try.func59, Try.ntmps59
  go_wp2_with fail
  refine (now_any L cr now chs _ HS.out.bed HS.out.now0 HS.out.now1).mono ?_
  rintro e w1 ⟨rfl, hb1⟩
  have S1 := Lib.hid (HS.out.below hb1)
  have Z1 := Lib.hid hb1.size
  have M1 := Lib.hid (show Mod [L.cb, L.rc, L.bk, L.bd, cr] w w1 from Mod.of_below hb1)
  clear hb1 g0
  go_wp2_with fail
  have S2 := Lib.hid (S1.out.alloc (Obj.cells #[Value.int IntKind.u64 (NS now), Value.int IntKind.i64 (SEC now), Value.pointer none] 118))
  have M2 := Lib.hid (M1.out.alloc (Obj.cells #[Value.int IntKind.u64 (NS now), Value.int IntKind.i64 (SEC now), Value.pointer none] 118))
  refine (look_any L cr r c now chs _ S2.out hlen HW.out).mono ?_
  rintro e w3 ⟨rfl, hev⟩
  have E3 := Lib.hid (Evo.after M2.out hev)
  clear hev
  rw [HST.out]
  go_wp2_with fail
  go_ret3
  exact ⟨rfl, E3.out⟩


set_option maxRecDepth 100000 in
set_option maxHeartbeats 2000000 in
theorem before_many (L : Loc) (cr : Nat) (r : Rules) (c : CB) (now : Int) (chs : List (Int × Int)) (w : World) (h : Sys w L cr r c now chs) (hlen : chs.length ≤ 1000000) (hw : Win c now) (hst : (c.look now).state = 1) (hv : (c.look now).maxReq ≤ (c.look now).rc.tot.valid) :
    Calls Try.prog 59 #[.pointer (some ⟨L.cb, 0, none⟩)] w fun e w' => e = .returned (.tuple #[.int .u64 (c.look now).gen, .int .u64 (c.look now).rc.age, codeV 2]) ∧ Evo L r w cr w' (c.look now) now (chs ++ c.lookTold now) := by
  have HS := Lib.hid h
  have HW := Lib.hid hw
  obtain ⟨hc, hf⟩ := h.cb.cells
  have g0 := hc 0
  simp [nowV] at g0
  obtain ⟨z1, z2, z3, z4, z5, z6, z7⟩ := h.lts
  have HST := Lib.hid hst
  clear h hw hc hf hst
  have HV := Lib.hid hv
  clear hv
  go_enter Try.func59, Try.ntmps59
  go_wp2_with fail
  refine (now_any L cr now chs _ HS.out.bed HS.out.now0 HS.out.now1).mono ?_
  rintro e w1 ⟨rfl, hb1⟩
  have S1 := Lib.hid (HS.out.below hb1)
  have Z1 := Lib.hid hb1.size
  have M1 := Lib.hid (show Mod [L.cb, L.rc, L.bk, L.bd, cr] w w1 from Mod.of_below hb1)
  clear hb1 g0
  go_wp2_with fail
  have S2 := Lib.hid (S1.out.alloc (Obj.cells #[Value.int IntKind.u64 (NS now), Value.int IntKind.i64 (SEC now), Value.pointer none] 118))
  have M2 := Lib.hid (M1.out.alloc (Obj.cells #[Value.int IntKind.u64 (NS now), Value.int IntKind.i64 (SEC now), Value.pointer none] 118))
  refine (look_any L cr r c now chs _ S2.out hlen HW.out).mono ?_
  rintro e w3 ⟨rfl, hev⟩
  have E3 := Lib.hid (Evo.after M2.out hev)
  clear hev
  rw [HST.out]
  obtain ⟨cr3, s3, k3, m3⟩ := E3.out
  obtain ⟨hc, hf⟩ := s3.cb.cells
  have g2 := hc 2
  have g12 := hc 12
  have r0 := s3.cb.rc.cells.1 0
  have r3 := s3.cb.rc.cells.1 3
  simp at g2 g12 r0 r3
  have S3 := Lib.hid s3
  have K3 := Lib.hid k3
  have M3 := Lib.hid m3
  clear s3 k3 m3 hc hf E3
  go_wp2_with fail
  have hvb : (c.look now).maxReq ≤ validN (c.look now).rc.tot.r (c.look now).rc.tot.x := HV.out
  go_quiet ((go_at_call 83; exact Calls.quiet_of (cntValid_q L.rc 0 _ _ _ _ r0 r3)))
  clear g2 r0 r3
  go_wp2_with fail
  go_ret3
  exact ⟨rfl, cr3, S3.out.drewN _, K3.out, M3.out.drewN _⟩


theorem req_ok {c : CB} (ok : c.Ok) : ({ c with rc := c.rc.req } : CB).Ok :=
  ⟨by simpa [RC.req] using ok.pos, by simpa [RC.req] using ok.few, ok.age0, ok.age1, ok.int0, ok.int1, ok.per0, ok.per1, ok.tim0, ok.tim1, ok.st0, ok.st1⟩

set_option maxRecDepth 100000 in
set_option maxHeartbeats 2000000 in
theorem before_half (L : Loc) (cr : Nat) (r : Rules) (c : CB) (now : Int) (chs : List (Int × Int)) (w : World) (h : Sys w L cr r c now chs) (hlen : chs.length ≤ 1000000) (hw : Win c now) (hst : (c.look now).state = 1) (hv : (c.look now).rc.tot.valid < (c.look now).maxReq) :
    Calls Try.prog 59 #[.pointer (some ⟨L.cb, 0, none⟩)] w fun e w' => e = .returned (.tuple #[.int .u64 (c.look now).gen, .int .u64 (c.look now).rc.age, codeV 0]) ∧ Evo L r w cr w' { c.look now with rc := (c.look now).rc.req } now (chs ++ c.lookTold now) := by
  have HS := Lib.hid h
  have HW := Lib.hid hw
  obtain ⟨hc, hf⟩ := h.cb.cells
  have g0 := hc 0
  simp [nowV] at g0
  obtain ⟨z1, z2, z3, z4, z5, z6, z7⟩ := h.lts
  have HST := Lib.hid hst
  clear h hw hc hf hst
  have HV := Lib.hid hv
  clear hv
  go_enter Try.func59, Try.ntmps59
  go_wp2_with fail
  refine (now_any L cr now chs _ HS.out.bed HS.out.now0 HS.out.now1).mono ?_
  rintro e w1 ⟨rfl, hb1⟩
  have S1 := Lib.hid (HS.out.below hb1)
  have Z1 := Lib.hid hb1.size
  have M1 := Lib.hid (show Mod [L.cb, L.rc, L.bk, L.bd, cr] w w1 from Mod.of_below hb1)
  clear hb1 g0
  go_wp2_with fail
  have S2 := Lib.hid (S1.out.alloc (Obj.cells #[Value.int IntKind.u64 (NS now), Value.int IntKind.i64 (SEC now), Value.pointer none] 118))
  have M2 := Lib.hid (M1.out.alloc (Obj.cells #[Value.int IntKind.u64 (NS now), Value.int IntKind.i64 (SEC now), Value.pointer none] 118))
  refine (look_any L cr r c now chs _ S2.out hlen HW.out).mono ?_
  rintro e w3 ⟨rfl, hev⟩
  have E3 := Lib.hid (Evo.after M2.out hev)
  clear hev
  rw [HST.out]
  obtain ⟨cr3, s3, k3, m3⟩ := E3.out
  obtain ⟨hc, hf⟩ := s3.cb.cells
  have g2 := hc 2
  have g12 := hc 12
  have r0 := s3.cb.rc.cells.1 0
  have r3 := s3.cb.rc.cells.1 3
  simp at g2 g12 r0 r3
  have S3 := Lib.hid s3
  have K3 := Lib.hid k3
  have M3 := Lib.hid m3
  clear s3 k3 m3 hc hf E3
  go_wp2_with fail
  have hvb : ¬ (c.look now).maxReq ≤ validN (c.look now).rc.tot.r (c.look now).rc.tot.x := by have h := HV.out; have e : (c.look now).rc.tot.valid = validN (c.look now).rc.tot.r (c.look now).rc.tot.x := rfl; omega
  go_quiet ((go_at_call 83; exact Calls.quiet_of (cntValid_q L.rc 0 _ _ _ _ r0 r3)))
  clear g2 r0 r3
  go_wp2_with fail
  refine (rcReq_any L.rc L.bk (c.look now).rc _ (S3.out.drewN nq).cb.rc ⟨S3.out.ok.pos, S3.out.ok.few, S3.out.ok.age0, S3.out.ok.age1⟩ S3.out.lok.rc_bk).mono ?_
  rintro e w4 ⟨rfl, hr4, hm4⟩
  have S4 := Lib.hid ((S3.out.drewN nq).withCb (c' := { c.look now with rc := (c.look now).rc.req }) (CBat.withRc (c := c.look now) (hm4.heap (S3.out.drewN nq).cb.cb (by simp [S3.out.lok.cb_rc, S3.out.lok.cb_bk])) hr4) (req_ok S3.out.ok) (hm4.mono (by simp)))
  have M4 := Lib.hid ((M3.out.drewN nq).trans (hm4.mono (by simp)))
  clear hr4 hm4
  go_wp2_with fail
  go_ret3
  exact ⟨rfl, cr3, S4.out, K3.out, M4.out⟩


set_option maxRecDepth 100000 in
set_option maxHeartbeats 2000000 in
theorem before_closed (L : Loc) (cr : Nat) (r : Rules) (c : CB) (now : Int) (chs : List (Int × Int)) (w : World) (h : Sys w L cr r c now chs) (hlen : chs.length ≤ 1000000) (hw : Win c now) (hst : (c.look now).state = 0) :
    Calls Try.prog 59 #[.pointer (some ⟨L.cb, 0, none⟩)] w fun e w' => e = .returned (.tuple #[.int .u64 (c.look now).gen, .int .u64 (c.look now).rc.age, codeV 0]) ∧ Evo L r w cr w' { c.look now with rc := (c.look now).rc.req } now (chs ++ c.lookTold now) := by
  have HS := Lib.hid h
  have HW := Lib.hid hw
  obtain ⟨hc, hf⟩ := h.cb.cells
  have g0 := hc 0
  simp [nowV] at g0
  obtain ⟨z1, z2, z3, z4, z5, z6, z7⟩ := h.lts
  have HST := Lib.hid hst
  clear h hw hc hf hst
  go_enter Try.func59, Try.ntmps59
  go_wp2_with fail
  refine (now_any L cr now chs _ HS.out.bed HS.out.now0 HS.out.now1).mono ?_
  rintro e w1 ⟨rfl, hb1⟩
  have S1 := Lib.hid (HS.out.below hb1)
  have Z1 := Lib.hid hb1.size
  have M1 := Lib.hid (show Mod [L.cb, L.rc, L.bk, L.bd, cr] w w1 from Mod.of_below hb1)
  clear hb1 g0
  go_wp2_with fail
  have S2 := Lib.hid (S1.out.alloc (Obj.cells #[Value.int IntKind.u64 (NS now), Value.int IntKind.i64 (SEC now), Value.pointer none] 118))
  have M2 := Lib.hid (M1.out.alloc (Obj.cells #[Value.int IntKind.u64 (NS now), Value.int IntKind.i64 (SEC now), Value.pointer none] 118))
  refine (look_any L cr r c now chs _ S2.out hlen HW.out).mono ?_
  rintro e w3 ⟨rfl, hev⟩
  have E3 := Lib.hid (Evo.after M2.out hev)
  clear hev
  rw [HST.out]
  obtain ⟨cr3, s3, k3, m3⟩ := E3.out
  obtain ⟨hc, hf⟩ := s3.cb.cells
  have g2 := hc 2
  have g12 := hc 12
  have r0 := s3.cb.rc.cells.1 0
  have r3 := s3.cb.rc.cells.1 3
  simp at g2 g12 r0 r3
  have S3 := Lib.hid s3
  have K3 := Lib.hid k3
  have M3 := Lib.hid m3
  clear s3 k3 m3 hc hf E3
  go_wp2_with fail
  go_quiet ((go_at_call 83; exact Calls.quiet_of (cntValid_q L.rc 0 _ _ _ _ r0 r3)))
  clear g2 r0 r3
  go_wp2_with fail
  refine (rcReq_any L.rc L.bk (c.look now).rc _ (S3.out.drewN nq).cb.rc ⟨S3.out.ok.pos, S3.out.ok.few, S3.out.ok.age0, S3.out.ok.age1⟩ S3.out.lok.rc_bk).mono ?_
  rintro e w4 ⟨rfl, hr4, hm4⟩
  have S4 := Lib.hid ((S3.out.drewN nq).withCb (c' := { c.look now with rc := (c.look now).rc.req }) (CBat.withRc (c := c.look now) (hm4.heap (S3.out.drewN nq).cb.cb (by simp [S3.out.lok.cb_rc, S3.out.lok.cb_bk])) hr4) (req_ok S3.out.ok) (hm4.mono (by simp)))
  have M4 := Lib.hid ((M3.out.drewN nq).trans (hm4.mono (by simp)))
  clear hr4 hm4
  go_wp2_with fail
  go_ret3
  exact ⟨rfl, cr3, S4.out, K3.out, M4.out⟩


theorem beforeReq_any (L : Loc) (cr : Nat) (r : Rules) (c : CB) (now : Int) (chs : List (Int × Int)) (w : World) (h : Sys w L cr r c now chs) (hlen : chs.length ≤ 1000000) (hw : Win c now) :
    Calls Try.prog 59 #[.pointer (some ⟨L.cb, 0, none⟩)] w fun e w' => e = .returned (.tuple #[.int .u64 (c.look now).gen, .int .u64 (c.look now).rc.age, codeV (c.look now).beforeCode]) ∧ Evo L r w cr w' (c.look now).before1 now (chs ++ c.lookTold now) := by
  have key : (c.look now).state = 0 ∨ (c.look now).state = 1 ∨ (c.look now).state = 2 := by
    have a1 := h.ok.st0
    have a2 := h.ok.st1
    unfold CB.look CB.newGen
    split
    · split
      · dsimp only; omega
      · split
        · dsimp only; omega
        · omega
    · split
      · dsimp only; omega
      · omega
  rcases key with hs | hs | hs
  · have e1 : (c.look now).beforeCode = 0 := by unfold CB.beforeCode; rw [if_neg (by omega), if_neg (by omega)]
    have e2 : (c.look now).before1 = { c.look now with rc := (c.look now).rc.req } := by unfold CB.before1; rw [if_neg (by omega), if_neg (by omega)]
    rw [e1, e2]; exact before_closed L cr r c now chs w h hlen hw hs
  · by_cases hv : (c.look now).maxReq ≤ (c.look now).rc.tot.valid
    · have e1 : (c.look now).beforeCode = 2 := by unfold CB.beforeCode; rw [if_neg (by omega), if_pos ⟨hs, hv⟩]
      have e2 : (c.look now).before1 = c.look now := by unfold CB.before1; rw [if_neg (by omega), if_pos ⟨hs, hv⟩]
      rw [e1, e2]; exact before_many L cr r c now chs w h hlen hw hs hv
    · have e1 : (c.look now).beforeCode = 0 := by unfold CB.beforeCode; rw [if_neg (by omega), if_neg (by simp [hv])]
      have e2 : (c.look now).before1 = { c.look now with rc := (c.look now).rc.req } := by unfold CB.before1; rw [if_neg (by omega), if_neg (by simp [hv])]
      rw [e1, e2]; exact before_half L cr r c now chs w h hlen hw hs (by omega)
  · have e1 : (c.look now).beforeCode = 1 := by unfold CB.beforeCode; rw [if_pos hs]
    have e2 : (c.look now).before1 = c.look now := by unfold CB.before1; rw [if_pos hs]
    rw [e1, e2]; exact before_open L cr r c now chs w h hlen hw hs

end Go.Proofs.Ytcjklacfoldaoaa
