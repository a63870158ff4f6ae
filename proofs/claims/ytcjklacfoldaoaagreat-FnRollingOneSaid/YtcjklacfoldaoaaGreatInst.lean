/- Contract of brInstant. Condition: the calls can be read. -/
import Derived.Test.YtcjklacfoldaoaaGreatPlayR
import Derived.BigQuiet
namespace Go.Proofs.YtcjklacfoldaoaaGreat
open Go.RowKit
attribute [local go_sem ↓] Go.wp_at_zero Go.wp_at_succ

def instOk (k : Call) : Bool := decide (0 ≤ k.wait) && (decide (k.wait ≤ 1000000000000000) && (decide (k.long = 0) && (decide (0 ≤ k.err) && (decide (k.err ≤ 6) && !k.pan))))
def inst (l : List Call) : Bool := l.all instOk && decide (l.length ≤ 100)
theorem instOk_parts {k : Call} (h : instOk k = true) : 0 ≤ k.wait ∧ k.wait ≤ 1000000000000000 ∧ k.long = 0 ∧ 0 ≤ k.err ∧ k.err ≤ 6 ∧ k.pan = false := by
  unfold instOk at h; simpa using h
theorem instNo_parts {k : Call} (h : instOk k = false) : k.wait < 0 ∨ (0 ≤ k.wait ∧ 1000000000000000 < k.wait) ∨ (0 ≤ k.wait ∧ k.wait ≤ 1000000000000000 ∧ k.long ≠ 0) ∨ (0 ≤ k.wait ∧ k.wait ≤ 1000000000000000 ∧ k.long = 0 ∧ k.err < 0) ∨
    (0 ≤ k.wait ∧ k.wait ≤ 1000000000000000 ∧ k.long = 0 ∧ 0 ≤ k.err ∧ 6 < k.err) ∨ (0 ≤ k.wait ∧ k.wait ≤ 1000000000000000 ∧ k.long = 0 ∧ 0 ≤ k.err ∧ k.err ≤ 6 ∧ k.pan = true) := by
  unfold instOk at h
  simp at h
  by_cases h1 : 0 ≤ k.wait
  · by_cases h2 : k.wait ≤ 1000000000000000
    · by_cases h3 : k.long = 0
      · by_cases h4 : 0 ≤ k.err
        · by_cases h5 : k.err ≤ 6
          · exact .inr (.inr (.inr (.inr (.inr ⟨h1, h2, h3, h4, h5, h h1 h2 h3 h4 h5⟩))))
          · exact .inr (.inr (.inr (.inr (.inl ⟨h1, h2, h3, h4, by omega⟩))))
        · exact .inr (.inr (.inr (.inl ⟨h1, h2, h3, by omega⟩)))
      · exact .inr (.inr (.inl ⟨h1, h2, h3⟩))
    · exact .inr (.inl ⟨h1, by omega⟩)
  · exact .inl (by omega)
theorem inst_get {l : List Call} (h : l.all instOk = true) {i : Nat} {a : Call} (hi : l[i]? = some a) : instOk a = true := by
  rw [List.all_eq_true] at h
  exact h a (List.mem_of_getElem? hi)

set_option maxRecDepth 100000 in
set_option maxHeartbeats 4000000 in
theorem inst_any (va : Value) (l : List Call) (w : World) (ha : CallsAt w va l) (hn : l.length ≤ 2147483647) :
    Calls Tryz.prog 15 #[va] w fun e w' => e = .returned (.bool (inst l)) ∧ Below w.heap.size w w' := by
  obtain ⟨pa, cap, rfl, hacts⟩ := ha
  have HA := Lib.hid hacts
  clear hacts
  go_enter Tryz.func15, Tryz.ntmps15
  go_wp2_with fail
  go_loopg [7] l.length (fun g s7 wx => ∃ i : Nat, g = l.length - i ∧ i ≤ l.length ∧ s7 = .int .i64 (i : Int) ∧ Hid (Below w.heap.size w wx ∧ ∀ (j : Nat) (k : Call), j < i → l[j]? = some k → instOk k = true))
  case atStart => exact ⟨0, rfl, Nat.zero_le _, rfl, Lib.hid ⟨Below.refl _ _, fun j k hj => absurd hj (Nat.not_lt_zero _)⟩⟩
  case round =>
    obtain ⟨i, rfl, hi, rfl, hh⟩ := hrel
    obtain ⟨hB, hP⟩ := hh.out
    have HB := Lib.hid hB
    have HP := Lib.hid hP
    clear hh hB hP
    by_cases hin : i < l.length
    · have hiz : (i : Int) < (l.length : Int) := by omega
      obtain ⟨a, hla⟩ : ∃ a, l[i]? = some a := ⟨_, List.getElem?_eq_getElem hin⟩
      obtain ⟨ab, ao, rfl, hblk, hcell⟩ := HA.out i a hla
      have hbc := fun j u hj => (HB.out.cell (p := ⟨ab, ao + i * 5 + j, none⟩) hblk).trans (hcell j u hj)
      have k0 : wr.cell? ⟨ab, ao + i * 5, none⟩ = some (.int .i64 a.wait) := hbc 0 _ rfl
      have k1 := hbc 1 _ rfl
      have k2 := hbc 2 _ rfl
      have k3 := hbc 3 _ rfl
      have k4 := hbc 4 _ rfl
      have LA := Lib.hid hla
      clear hbc hcell hla
      cases hk : instOk a with
      | true =>
        have HK := Lib.hid hk
        obtain ⟨q1, q2, q3, q4, q5, q6⟩ := instOk_parts hk
        have d1 : decide (a.wait < 0) = false := by simp; omega
        have d2 : decide (1000000000000000 < a.wait) = false := by simp; omega
        have d3 : (a.long != 0) = false := by simpa using q3
        have d4 : decide (a.err < 0) = false := by simp; omega
        have d5 : decide (7 ≤ a.err) = false := by simp; omega
        rw [q6] at k4
        clear hk q1 q2 q3 q4 q5 q6
        go_wp2_with fail
        go_roundg (l.length - (i + 1))
        case measure => omega
        case rel =>
          refine ⟨i + 1, rfl, hin, by first | rfl | (simp; done), Lib.hid ⟨HB.out.alloc HB.out.size _, ?_⟩⟩
          intro j k hj hk
          rcases Nat.lt_or_ge j i with h | h
          · exact HP.out j k h hk
          · have e : j = i := by omega
            subst e
            rw [LA.out] at hk
            cases hk
            exact HK.out
      | false =>
        have hno : inst l = false := by
          unfold inst
          have : l.all instOk = false := by
            cases hx : l.all instOk with
            | false => rfl
            | true => have := inst_get hx LA.out; rw [hk] at this; cases this
          rw [this]; rfl
        have HNO := Lib.hid hno
        clear hno
        rcases instNo_parts hk with q1 | ⟨q1, q2⟩ | ⟨q1, q2, q3⟩ | ⟨q1, q2, q3, q4⟩ | ⟨q1, q2, q3, q4, q5⟩ | ⟨q1, q2, q3, q4, q5, q6⟩
        · have d1 : decide (a.wait < 0) = true := by simp; omega
          clear hk q1
          go_wp2_with fail
          go_ret
          exact ⟨by rw [HNO.out]; rfl, HB.out.alloc HB.out.size _⟩
        · have d1 : decide (a.wait < 0) = false := by simp; omega
          have d2 : decide (1000000000000000 < a.wait) = true := by simp; omega
          clear hk q1 q2
          go_wp2_with fail
          go_ret
          exact ⟨by rw [HNO.out]; rfl, HB.out.alloc HB.out.size _⟩
        · have d1 : decide (a.wait < 0) = false := by simp; omega
          have d2 : decide (1000000000000000 < a.wait) = false := by simp; omega
          have d3 : (a.long != 0) = true := by simpa using q3
          clear hk q1 q2 q3
          go_wp2_with fail
          go_ret
          exact ⟨by rw [HNO.out]; rfl, HB.out.alloc HB.out.size _⟩
        · have d1 : decide (a.wait < 0) = false := by simp; omega
          have d2 : decide (1000000000000000 < a.wait) = false := by simp; omega
          have d3 : (a.long != 0) = false := by simpa using q3
          have d4 : decide (a.err < 0) = true := by simp; omega
          clear hk q1 q2 q3 q4
          go_wp2_with fail
          go_ret
          exact ⟨by rw [HNO.out]; rfl, HB.out.alloc HB.out.size _⟩
        · have d1 : decide (a.wait < 0) = false := by simp; omega
          have d2 : decide (1000000000000000 < a.wait) = false := by simp; omega
          have d3 : (a.long != 0) = false := by simpa using q3
          have d4 : decide (a.err < 0) = false := by simp; omega
          have d5 : decide (7 ≤ a.err) = true := by simp; omega
          clear hk q1 q2 q3 q4 q5
          go_wp2_with fail
          go_ret
          exact ⟨by rw [HNO.out]; rfl, HB.out.alloc HB.out.size _⟩
        · have d1 : decide (a.wait < 0) = false := by simp; omega
          have d2 : decide (1000000000000000 < a.wait) = false := by simp; omega
          have d3 : (a.long != 0) = false := by simpa using q3
          have d4 : decide (a.err < 0) = false := by simp; omega
          have d5 : decide (7 ≤ a.err) = false := by simp; omega
          rw [q6] at k4
          clear hk q1 q2 q3 q4 q5 q6
          go_wp2_with fail
          go_ret
          exact ⟨by rw [HNO.out]; rfl, HB.out.alloc HB.out.size _⟩
    · have hiz : ¬ ((i : Int) < (l.length : Int)) := by omega
      have hall : l.all instOk = true := by
        rw [List.all_eq_true]
        intro x hx
        obtain ⟨j, hj⟩ := List.getElem?_of_mem hx
        have hjl : j < l.length := by
          rcases Nat.lt_or_ge j l.length with h | h
          · exact h
          · rw [List.getElem?_eq_none h] at hj; cases hj
        exact HP.out j x (by omega) hj
      have he : inst l = decide (l.length ≤ 100) := by unfold inst; rw [hall]; rfl
      have HE := Lib.hid he
      by_cases h100 : l.length ≤ 100
      · have hz : (l.length : Int) ≤ 100 := by omega
        have HH := Lib.hid (decide_eq_true h100)
        clear hall he h100
        go_wp2_with fail
        go_ret
        exact ⟨by rw [HE.out, HH.out]; rfl, HB.out⟩
      · have hz : ¬ ((l.length : Int) ≤ 100) := by omega
        have HH := Lib.hid (decide_eq_false h100)
        clear hall he h100
        go_wp2_with fail
        go_ret
        exact ⟨by rw [HE.out, HH.out]; rfl, HB.out⟩

end Go.Proofs.YtcjklacfoldaoaaGreat
