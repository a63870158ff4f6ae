/- Contract of AreActs. Conditions: the acts can be read, the rules' numbers are in their types' ranges. -/
import Derived.Test.YtcjklacfoldaoaaSpecM
namespace Go.Proofs.Ytcjklacfoldaoaa
open Go.RowKit
attribute [local go_sem ↓] Go.wp_at_zero Go.wp_at_succ

theorem ActsAt.below {w w' : World} {v : Value} {l : List Act} (h : ActsAt w v l) (b : Below w.heap.size w w') : ActsAt w' v l := by
  obtain ⟨p, cap, rfl, ha⟩ := h
  refine ⟨p, cap, rfl, fun i x hx => ?_⟩
  obtain ⟨k, o, rfl, hk, hc⟩ := ha i x hx
  exact ⟨k, o, rfl, Nat.lt_of_lt_of_le hk b.size, fun j u hu => (b.cell (p := ⟨k, o + i * 4 + j, none⟩) hk).trans (hc j u hu)⟩


set_option maxRecDepth 100000 in
set_option maxHeartbeats 2000000 in
theorem areActs_rules (r : Rules) (start : Int) (va : Value) (_l : List Act) (w : World) (h : areRules r = false) :
    Calls Try.prog 17 #[rulesV r, .int .i64 start, va] w fun e w' => e = .returned (.bool false) ∧ Below w.heap.size w w' := by
  have F := Lib.hid h
  clear h
  unfold rulesV
  go_enter Try.func17, Try.ntmps17
  go_wp2_with fail
  refine (areRules_any r _).mono ?_
  rintro e w2 ⟨rfl, hb2⟩
  rw [F.out]
  go_wp2_with fail
  go_ret
  exact ⟨rfl, ((Below.refl _ _).alloc (Nat.le_refl _) _).trans (hb2.mono (by simp))⟩


set_option maxRecDepth 100000 in
set_option maxHeartbeats 2000000 in
theorem areActs_time (r : Rules) (start : Int) (va : Value) (_l : List Act) (w : World) (h : areRules r = true) (ht : isTime start = false) :
    Calls Try.prog 17 #[rulesV r, .int .i64 start, va] w fun e w' => e = .returned (.bool false) ∧ Below w.heap.size w w' := by
  have F := Lib.hid h
  have T := Lib.hid ht
  clear h ht
  unfold rulesV
  go_enter Try.func17, Try.ntmps17
  go_wp2_with fail
  refine (areRules_any r _).mono ?_
  rintro e w2 ⟨rfl, hb2⟩
  rw [F.out]
  go_wp2_with fail
  refine (isTime_any start _).mono ?_
  rintro e w3 ⟨rfl, rfl⟩
  rw [T.out]
  go_wp2_with fail
  go_ret
  exact ⟨rfl, ((Below.refl _ _).alloc (Nat.le_refl _) _).trans (hb2.mono (by simp))⟩


set_option maxRecDepth 100000 in
set_option maxHeartbeats 2000000 in
theorem areActs_long (r : Rules) (start : Int) (va : Value) (l : List Act) (w : World) (h : areRules r = true) (ht : isTime start = true) (ha : ActsAt w va l) (hl : 2000 < l.length) :
    Calls Try.prog 17 #[rulesV r, .int .i64 start, va] w fun e w' => e = .returned (.bool false) ∧ Below w.heap.size w w' := by
  obtain ⟨pa, cap, rfl, _⟩ := ha
  have F := Lib.hid h
  have T := Lib.hid ht
  have hlz : (2000 : Int) < (l.length : Int) := by omega
  clear h ht
  unfold rulesV
  go_enter Try.func17, Try.ntmps17
  go_wp2_with fail
  refine (areRules_any r _).mono ?_
  rintro e w2 ⟨rfl, hb2⟩
  rw [F.out]
  go_wp2_with fail
  refine (isTime_any start _).mono ?_
  rintro e w3 ⟨rfl, rfl⟩
  rw [T.out]
  go_wp2_with fail
  go_ret
  exact ⟨rfl, ((Below.refl _ _).alloc (Nat.le_refl _) _).trans (hb2.mono (by simp))⟩


set_option maxRecDepth 100000 in
set_option maxHeartbeats 2000000 in
theorem areActs_loop (r : Rules) (start : Int) (va : Value) (l : List Act) (w : World) (h : areRules r = true) (ht : isTime start = true) (rok : r.Ok) (m0 : 0 ≤ r.most) (m1 : r.most < 4294967296) (ha : ActsAt w va l) (hl : l.length ≤ 2000) :
    Calls Try.prog 17 #[rulesV r, .int .i64 start, va] w fun e w' => e = .returned (.bool (areActs r start l)) ∧ Below w.heap.size w w' := by
  have HAT := Lib.hid ha
  obtain ⟨pa, cap, rfl, hacts⟩ := ha
  have HA := Lib.hid hacts
  have F := Lib.hid h
  have T := Lib.hid ht
  have RO := Lib.hid rok
  have MI := Lib.hid (mild_of h m0 m1)
  have hlz : (l.length : Int) ≤ 2000 := by omega
  clear h ht hacts rok
  unfold rulesV
  go_enter Try.func17, Try.ntmps17
  go_wp2_with fail
  refine (areRules_any r _).mono ?_
  rintro e w2 ⟨rfl, hb2⟩
  rw [F.out]
  have B2 := Lib.hid (((Below.refl _ _).alloc (Nat.le_refl _) _).trans (hb2.mono (by simp)) : Below w.heap.size w w2)
  have R2 := Lib.hid ((hb2.block w.heap.size (by simp)).trans (heap_alloc_new w (Obj.cells (rulesArr r) 24)))
  clear hb2
  go_wp2_with fail
  refine (isTime_any start _).mono ?_
  rintro e w3 ⟨rfl, rfl⟩
  rw [T.out]
  go_wp2_with fail
  go_loopg [27] l.length (fun g s27 wx => ∃ i : Nat, g = l.length - i ∧ i ≤ l.length ∧ s27 = .int .i64 (i : Int) ∧ Hid (Below w.heap.size w wx ∧ wx.heap[w.heap.size]? = some (Obj.cells (rulesArr r) 24 (0, 0)) ∧ ∀ (j : Nat) (a : Act), j < i → l[j]? = some a → actOk a = true))
  case atStart =>
    exact ⟨0, rfl, Nat.zero_le _, rfl, Lib.hid ⟨B2.out, R2.out, fun j a hj => absurd hj (Nat.not_lt_zero _)⟩⟩
  case round =>
    obtain ⟨i, rfl, hi, rfl, hh⟩ := hrel
    obtain ⟨hB, hR, hP⟩ := hh.out
    have B := Lib.hid hB
    have R := Lib.hid hR
    have P := Lib.hid hP
    clear hh hB hR hP B2 R2
    by_cases hin : i < l.length
    · have hiz : (i : Int) < (l.length : Int) := by omega
      obtain ⟨a, hla⟩ : ∃ a, l[i]? = some a := ⟨_, List.getElem?_eq_getElem hin⟩
      obtain ⟨ab, ao, rfl, hblk, hcell⟩ := HA.out i a hla
      have hbc := fun j u hj => (B.out.cell (p := ⟨ab, ao + i * 4 + j, none⟩) hblk).trans (hcell j u hj)
      have k0 : wr.cell? ⟨ab, ao + i * 4, none⟩ = some (.int .i64 a.kind) := hbc 0 _ rfl
      have k1 := hbc 1 _ rfl
      have k2 := hbc 2 _ rfl
      have k3 := hbc 3 _ rfl
      have LA := Lib.hid hla
      clear hbc hcell hla hblk
      by_cases c1 : 0 ≤ a.kind
      · by_cases c2 : a.kind ≤ 2
        · cases hw : isWait a.wait with
          | true =>
            have HW := Lib.hid hw
            clear hw
            cases he : isError a.err with
            | true =>
              have HE := Lib.hid he
              clear he
              go_wp2_with fail
              refine (isWait_any a.wait _).mono ?_
              rintro e w4 ⟨rfl, rfl⟩
              rw [HW.out]
              go_wp2_with fail
              refine (isError_any a.err _).mono ?_
              rintro e w5 ⟨rfl, rfl⟩
              rw [HE.out]
              go_wp2_with fail
              go_roundg (l.length - (i + 1))
              case measure => omega
              case rel =>
                refine ⟨i + 1, rfl, hin, by first | rfl | simp, Lib.hid ⟨B.out.alloc (by have := B.out.size; omega) _, heap_alloc_lt R.out, ?_⟩⟩
                intro j x hj hx
                rcases Nat.lt_or_ge j i with h | h
                · exact P.out j x h hx
                · have e : j = i := by omega
                  subst e
                  rw [LA.out] at hx
                  cases hx
                  unfold actOk
                  simp [c1, c2, HW.out, HE.out]
            | false =>
              have HE := Lib.hid he
              go_wp2_with fail
              refine (isWait_any a.wait _).mono ?_
              rintro e w4 ⟨rfl, rfl⟩
              rw [HW.out]
              go_wp2_with fail
              refine (isError_any a.err _).mono ?_
              rintro e w5 ⟨rfl, rfl⟩
              rw [HE.out]
              go_wp2_with fail
              have hal : areActs r start l = false := by
                have : l.all actOk = false := by
                  cases hx : l.all actOk with
                  | false => rfl
                  | true => have := all_get hx LA.out; rw [show actOk a = false by unfold actOk; simp [HE.out]] at this; cases this
                unfold areActs; simp [this]
              rw [hal]
              go_ret
              exact ⟨rfl, B.out.alloc (by have := B.out.size; omega) _⟩
          | false =>
            have HW := Lib.hid hw
            go_wp2_with fail
            refine (isWait_any a.wait _).mono ?_
            rintro e w4 ⟨rfl, rfl⟩
            rw [HW.out]
            go_wp2_with fail
            have hal : areActs r start l = false := by
              have : l.all actOk = false := by
                cases hx : l.all actOk with
                | false => rfl
                | true => have := all_get hx LA.out; rw [show actOk a = false by unfold actOk; simp [HW.out]] at this; cases this
              unfold areActs; simp [this]
            rw [hal]
            go_ret
            exact ⟨rfl, B.out.alloc (by have := B.out.size; omega) _⟩
        · go_wp2_with fail
          have hal : areActs r start l = false := by
            have : l.all actOk = false := by
              cases hx : l.all actOk with
              | false => rfl
              | true => have := all_get hx LA.out; rw [show actOk a = false by unfold actOk; simp [show ¬ a.kind ≤ 2 by omega]] at this; cases this
            unfold areActs; simp [this]
          rw [hal]
          go_ret
          exact ⟨rfl, B.out.alloc (by have := B.out.size; omega) _⟩
      · go_wp2_with fail
        have hal : areActs r start l = false := by
          have : l.all actOk = false := by
            cases hx : l.all actOk with
            | false => rfl
            | true => have := all_get hx LA.out; rw [show actOk a = false by unfold actOk; simp [show ¬ 0 ≤ a.kind by omega]] at this; cases this
          unfold areActs; simp [this]
        rw [hal]
        go_ret
        exact ⟨rfl, B.out.alloc (by have := B.out.size; omega) _⟩
    · have hiz : ¬ ((i : Int) < (l.length : Int)) := by omega
      have hieq : i = l.length := by omega
      have hall : l.all actOk = true := by
        rw [List.all_eq_true]
        intro x hx
        obtain ⟨j, hj⟩ := List.getElem?_of_mem hx
        have hjl : j < l.length := by
          rcases Nat.lt_or_ge j l.length with h | h
          · exact h
          · rw [List.getElem?_eq_none h] at hj; cases hj
        exact P.out j x (by omega) hj
      have AL := Lib.hid hall
      have c : ∀ i, wr.cell? ⟨w.heap.size, i, none⟩ = #[.string r.name, .int .u32 r.most, .int .i64 r.interval, .int .i64 r.bucket, .int .i64 r.timeout, .int .i64 r.trip, .int .u32 r.bound, .bool r.hasGood, .int .u8 r.good, .bool r.hasOut, .int .u8 r.out][i]? := blk_cell R.out
      obtain ⟨s0, s1⟩ := isTime_parts T.out
      have hts := twoStep_any r start (.slice pa l.length cap) l wr MI.out RO.out s0 s1 (HAT.out.below B.out) hl hall
      have HTS := Lib.hid hts
      clear hall hts
      go_wp2_with fail
      refine HTS.out.mono ?_
      rintro e w6 ⟨vo, vc, rfl, hb6, _⟩
      go_wp2_with fail
      go_ret
      refine ⟨?_, B.out.trans (hb6.mono B.out.size)⟩
      have : areActs r start l = twoOk r start l := by unfold areActs; rw [F.out, T.out, AL.out, decide_eq_true hl]; simp
      rw [this]
      rfl


theorem areActs_any (r : Rules) (start : Int) (va : Value) (l : List Act) (w : World) (rok : r.Ok) (m0 : 0 ≤ r.most) (m1 : r.most < 4294967296) (ha : ActsAt w va l) :
    Calls Try.prog 17 #[rulesV r, .int .i64 start, va] w fun e w' => e = .returned (.bool (areActs r start l)) ∧ Below w.heap.size w w' := by
  cases h1 : areRules r with
  | false =>
    have e : areActs r start l = false := by unfold areActs; simp [h1]
    rw [e]; exact areActs_rules r start va l w h1
  | true =>
    cases h2 : isTime start with
    | false =>
      have e : areActs r start l = false := by unfold areActs; simp [h2]
      rw [e]; exact areActs_time r start va l w h1 h2
    | true =>
      by_cases h3 : l.length ≤ 2000
      · exact areActs_loop r start va l w h1 h2 rok m0 m1 ha h3
      · have e : areActs r start l = false := by unfold areActs; simp [h3]
        rw [e]; exact areActs_long r start va l w h1 h2 ha (by omega)

end Go.Proofs.Ytcjklacfoldaoaa
