/- The law FnExcludedHalf as a contract: it is true. No condition. -/
import Derived.Test.YtcjklacfoldaoaaPlayD
import Derived.Test.YtcjklacfoldaoaaWorks
import Derived.Test.YtcjklacfoldaoaaOpen
import Derived.Laws.OwnMore
import Derived.Laws.Runes
namespace Go.Proofs.Ytcjklacfoldaoaa
open Go.RowKit
attribute [local go_sem ↓] Go.wp_at_zero Go.wp_at_succ

theorem infoCall : (Try.prog.info? 57).map (fun i => (i.zero, i.size, i.bytes)) = some (some (.agg #[.int .i64 0, .int .i64 0, .int .i64 0, .int .i64 0, .bool false]), 5, 40) := by kernel_rfl
def callFlat (l : List Call) : List Value := l.flatMap callRow
theorem callFlat_snoc (l : List Call) (x : Call) : callFlat (l ++ [x]) = callFlat l ++ callRow x := by simp [callFlat]
theorem callFlat_get {l : List Call} {i : Nat} {x : Call} (h : l[i]? = some x) {j : Nat} (hj : j < 5) : (callFlat l)[i * 5 + j]? = (callRow x)[j]? := by
  induction l generalizing i with
  | nil => simp at h
  | cons a l ih =>
    cases i with
    | zero =>
      simp at h
      subst h
      simp only [callFlat, List.flatMap_cons, Nat.zero_mul, Nat.zero_add]
      rw [List.getElem?_append_left (by simpa [callRow] using hj)]
    | succ i =>
      have e : (i + 1) * 5 + j = (callRow a).length + (i * 5 + j) := by simp [callRow]; omega
      simp only [callFlat, List.flatMap_cons]
      rw [e, List.getElem?_append_right (by omega)]
      have := ih (i := i) (by simpa using h)
      simpa [callFlat] using this
theorem own_calls {w : World} {base : Nat} {v : Value} {l : List Call} (h : w.ownsRow base 57 5 v l.length (callFlat l)) : CallsAt w v l := by
  by_cases hl : l.length = 0
  · obtain ⟨p, cap, rfl⟩ := row_len h
    refine ⟨p, cap, rfl, fun i x hx => ?_⟩
    rw [List.eq_nil_of_length_eq_zero hl] at hx
    simp at hx
  · obtain ⟨g, cap, cs, rfl, hg, _, _, hc⟩ := row_slice h hl
    refine ⟨_, cap, rfl, fun i x hx => ⟨g, 0, rfl, hg, fun j u hu => ?_⟩⟩
    have hj : j < 5 := by
      rcases Nat.lt_or_ge j 5 with h | h
      · exact h
      · rw [List.getElem?_eq_none (by simpa [callRow] using h)] at hu; cases hu
    rw [Nat.zero_add]
    exact hc _ _ ((callFlat_get hx hj).trans hu)
theorem toldFlat_get {l : List Told} {i : Nat} {x : Told} (h : l[i]? = some x) {j : Nat} (hj : j < 10) : (toldFlat l)[i * 10 + j]? = (toldRow x)[j]? := by
  induction l generalizing i with
  | nil => simp at h
  | cons a l ih =>
    cases i with
    | zero =>
      simp at h
      subst h
      simp only [toldFlat, List.flatMap_cons, Nat.zero_mul, Nat.zero_add]
      rw [List.getElem?_append_left (by simpa [toldRow] using hj)]
    | succ i =>
      have e : (i + 1) * 10 + j = (toldRow a).length + (i * 10 + j) := by simp [toldRow]; omega
      simp only [toldFlat, List.flatMap_cons]
      rw [e, List.getElem?_append_right (by omega)]
      have := ih (i := i) (by simpa using h)
      simpa [toldFlat] using this

theorem row_cut {w : World} {base : Nat} {e : TypeId} {size n : Nat} {p : Option Addr} {cap : Nat} {xs : List Value} (h : w.ownsRow base e size (.slice p n cap) n xs) (hn : n ≠ 0) : ∃ g, p = some ⟨g, 0, none⟩ ∧ ∀ (j : Nat) (u : Value), xs[j]? = some u → w.cell? ⟨g, j, none⟩ = some u := by
  obtain ⟨g, c, cs, he, _, _, _, hc⟩ := row_slice h hn
  cases he
  exact ⟨g, rfl, hc⟩

/-- Calls within the bounds. -/
theorem PC.fine_of (r : Rules) (l : List Call) {n : Nat} {p : PC} (h : ∀ k ∈ l, 0 ≤ k.wait ∧ k.wait ≤ 1000000000000000 ∧ 0 ≤ k.long ∧ k.long ≤ 1000000000000000 ∧ 0 ≤ k.err ∧ k.err ≤ 6) (n0 : -1000000000000000 ≤ p.now) (n1 : p.now ≤ 1000000000000000 + 2000000000000000 * n) (hn : n + l.length ≤ 1200) : PC.Fine r p l := by
  induction l generalizing n p with
  | nil => trivial
  | cons k l ih =>
    obtain ⟨a, b, c, d, e, f⟩ := h k (by simp)
    simp at hn
    refine ⟨⟨a, c, by omega, by omega, e, f⟩, ih (n := n + 1) (fun x hx => h x (by simp [hx])) ?_ ?_ (by omega)⟩
    · show -1000000000000000 ≤ execNow p.c (p.now + k.wait) k
      unfold execNow; split <;> omega
    · show execNow p.c (p.now + k.wait) k ≤ _
      unfold execNow; split <;> omega

def halfR (m : Int) : Rules := ⟨⟨#[]⟩, m, 0, 0, 10, 1, 1, false, 0, true, 4⟩
def halfCall (i : Nat) : Call := ⟨if i = 0 then 11 else 0, 0, 0, 2, false⟩
def halfCalls (n : Nat) : List Call := ⟨0, 0, 0, 1, false⟩ :: (List.range n).map halfCall
def halfGood (m n : Nat) : Bool :=
  let p := PC.run (halfR m) (PC.start (halfR m) 0) (halfCalls n)
  p.out.all (·.ran) && (p.c.state == 1 && p.out.length == n + 1)
theorem half_all : (List.range 8).all (fun i => (List.range 16).all (fun j => halfGood (i + 1) (j + 1))) = true := by kernel_rfl
theorem half_good {m n : Nat} (h1 : 1 ≤ m) (h2 : m ≤ 8) (h3 : 1 ≤ n) (h4 : n ≤ 16) : halfGood m n = true := by
  have h := half_all
  rw [List.all_eq_true] at h
  have h5 := h (m - 1) (List.mem_range.2 (by omega))
  rw [List.all_eq_true] at h5
  have h6 := h5 (n - 1) (List.mem_range.2 (by omega))
  rw [show m - 1 + 1 = m by omega, show n - 1 + 1 = n by omega] at h6
  exact h6
theorem halfCalls_succ (n : Nat) : halfCalls (n + 1) = halfCalls n ++ [halfCall n] := by
  unfold halfCalls
  rw [List.range_succ, List.map_append]
  rfl
theorem halfCalls_len (n : Nat) : (halfCalls n).length = n + 1 := by simp [halfCalls]

theorem and7 (x : Int) : 0 ≤ bits BinOp.and IntKind.u32 x 7 ∧ bits BinOp.and IntKind.u32 x 7 ≤ 7 := by
  have h2 : (BitVec.ofInt 32 7).toNat = 7 := by decide
  have e : bits BinOp.and IntKind.u32 x 7 = IntKind.u32.wrap ((BitVec.ofInt 32 x &&& BitVec.ofInt 32 7).toNat : Int) := rfl
  have hle : (BitVec.ofInt 32 x).toNat &&& 7 ≤ 7 := Nat.and_le_right
  rw [e, BitVec.toNat_and, h2]
  show 0 ≤ ((_ : Nat) : Int) % 4294967296 ∧ ((_ : Nat) : Int) % 4294967296 ≤ 7
  omega
theorem and15 (x : Int) : 0 ≤ bits BinOp.and IntKind.i64 x 15 ∧ bits BinOp.and IntKind.i64 x 15 ≤ 15 := by
  have h2 : (BitVec.ofInt 64 15).toNat = 15 := by decide
  have e : bits BinOp.and IntKind.i64 x 15 = IntKind.i64.wrap ((BitVec.ofInt 64 x &&& BitVec.ofInt 64 15).toNat : Int) := rfl
  have hle : (BitVec.ofInt 64 x).toNat &&& 15 ≤ 15 := Nat.and_le_right
  rw [e, BitVec.toNat_and, h2, wrap_small _ (by omega) (by omega)]
  omega

set_option maxRecDepth 100000 in
set_option maxHeartbeats 4000000 in
theorem FnExcludedHalf_any (most times : Int) (w : World) :
    Calls Try.prog 12 #[.int .u32 most, .int .i64 times] w fun e w' => e = .returned (.bool true) ∧ Below w.heap.size w w' := by
  obtain ⟨x0, x1⟩ := and7 most
  obtain ⟨y0, y1⟩ := and15 times
  go_enter Try.func12, Try.ntmps12
  go_upto_region 2 with fail
  obtain ⟨m, hm⟩ : ∃ m : Nat, (1 : Int) + bits BinOp.and IntKind.u32 most 7 = (m : Int) := ⟨(1 + bits BinOp.and IntKind.u32 most 7).toNat, by omega⟩
  rw [hm]
  have m1 : 1 ≤ m := by omega
  have m2 : m ≤ 8 := by omega
  clear hm x0 x1
  have R1 := Lib.hid (heap_alloc_new w (Obj.cells #[Value.string ⟨#[]⟩, Value.int IntKind.u32 (m : Int), Value.int IntKind.i64 0, Value.int IntKind.i64 0, Value.int IntKind.i64 10, Value.int IntKind.i64 1, Value.int IntKind.u32 1, Value.bool false, Value.int IntKind.u8 0, Value.bool true, Value.int IntKind.u8 4] 24))
  have B1 := Lib.hid ((Below.refl w.heap.size w).alloc (Nat.le_refl _) (Obj.cells #[Value.string ⟨#[]⟩, Value.int IntKind.u32 (m : Int), Value.int IntKind.i64 0, Value.int IntKind.i64 0, Value.int IntKind.i64 10, Value.int IntKind.i64 1, Value.int IntKind.u32 1, Value.bool false, Value.int IntKind.u8 0, Value.bool true, Value.int IntKind.u8 4] 24))
  go_upto_region 4 with fail
  obtain ⟨n, hn⟩ : ∃ n : Nat, (1 : Int) + bits BinOp.and IntKind.i64 times 15 = (n : Int) := ⟨(1 + bits BinOp.and IntKind.i64 times 15).toNat, by omega⟩
  have n1 : 1 ≤ n := by omega
  have n2 : n ≤ 16 := by omega
  have HN := Lib.hid hn
  have wlt := Lib.hid (size_of_heap R1.out)
  have HZ1 := Lib.hid (show (w.alloc (Obj.cells #[Value.string ⟨#[]⟩, Value.int IntKind.u32 (m : Int), Value.int IntKind.i64 0, Value.int IntKind.i64 0, Value.int IntKind.i64 10, Value.int IntKind.i64 1, Value.int IntKind.u32 1, Value.bool false, Value.int IntKind.u8 0, Value.bool true, Value.int IntKind.u8 4] 24)).heap.size = w.heap.size + 1 by simp)
  generalize (w.alloc (Obj.cells #[Value.string { data := #[] }, Value.int IntKind.u32 (m : Int), Value.int IntKind.i64 0, Value.int IntKind.i64 0, Value.int IntKind.i64 10, Value.int IntKind.i64 1, Value.int IntKind.u32 1, Value.bool false, Value.int IntKind.u8 0, Value.bool true, Value.int IntKind.u8 4] 24)) = w1 at *
  have O2 := Lib.hid (World.ownsRow_lit (base := w1.heap.size) (e := 57) (size := 5) w1 #[.int .i64 0, .int .i64 0, .int .i64 0, .int .i64 1, .bool false] 1 (Nat.le_refl _) (by decide) (by decide))
  have B2 := Lib.hid (B1.out.alloc B1.out.size (Obj.cells #[Value.int IntKind.i64 0, Value.int IntKind.i64 0, Value.int IntKind.i64 0, Value.int IntKind.i64 1, Value.bool false] 57))
  have R2 := Lib.hid (heap_alloc_lt (o := (Obj.cells #[Value.int IntKind.i64 0, Value.int IntKind.i64 0, Value.int IntKind.i64 0, Value.int IntKind.i64 1, Value.bool false] 57)) R1.out)
  generalize hw2 : (w1.alloc (Obj.cells #[Value.int IntKind.i64 0, Value.int IntKind.i64 0, Value.int IntKind.i64 0, Value.int IntKind.i64 1, Value.bool false] 57)) = w2 at *
  clear hw2 B1 R1
  go_wp2_with fail
  go_loopg [6, 7, 22] n (fun g s6 s7 s22 wx => ∃ i : Nat, g = n - i ∧ i ≤ n ∧ s22 = .int .i64 (i : Int) ∧ s7 = .int .i64 (halfCall i).wait ∧ Hid (Below w2.heap.size w2 wx ∨ True) ∧ Hid (Below w.heap.size w wx ∧ wx.heap[w.heap.size]? = some (Obj.cells #[Value.string ⟨#[]⟩, Value.int IntKind.u32 (m : Int), Value.int IntKind.i64 0, Value.int IntKind.i64 0, Value.int IntKind.i64 10, Value.int IntKind.i64 1, Value.int IntKind.u32 1, Value.bool false, Value.int IntKind.u8 0, Value.bool true, Value.int IntKind.u8 4] 24 (0, 0)) ∧ wx.ownsRow w1.heap.size 57 5 s6 (i + 1) (callFlat (halfCalls i))))
  case atStart => exact ⟨0, rfl, Nat.zero_le _, rfl, rfl, Lib.hid (.inr trivial), Lib.hid ⟨B2.out, R2.out, by have e : callFlat (halfCalls 0) = [Value.int IntKind.i64 0, Value.int IntKind.i64 0, Value.int IntKind.i64 0, Value.int IntKind.i64 1, Value.bool false] := rfl; rw [e, ← HZ1.out]; exact O2.out⟩⟩
  case round =>
    obtain ⟨i, rfl, hi, rfl, rfl, _, hh⟩ := hrel
    obtain ⟨hB, hR, hO⟩ := hh.out
    have HB := Lib.hid hB
    have HR := Lib.hid hR
    have HO := Lib.hid hO
    clear hh hB hR hO
    by_cases hin : i < n
    · have hiz : (i : Int) < (n : Int) := by omega
      obtain ⟨i0, hi0, hz0, hz1, hz2⟩ := info_parts infoCall
      have hbase := HB.out.size
      have hw1 : w1.heap.size ≤ wr.heap.size := by
        obtain ⟨g, cap, _, _, hg, hb, _⟩ := row_slice HO.out (by omega)
        omega
      go_wp2_with (refine wpList_append_lies _ (by rfl) _ _ _ (by rfl) w1.heap.size 57 i0 (.agg #[.int .i64 0, .int .i64 0, .int .i64 0, .int .i64 0, .bool false]) 5 40 Try.underlying58 hi0 hz0 hz1 hz2 rfl (by omega) u6 (i + 1) (callFlat (halfCalls i)) (by rfl) (HO.out.alloc _) ⟨wr.heap.size, 0, none⟩ 1 1 (callRow (halfCall i)) (by rfl) rfl (World.news_of_block (heap_alloc_new wr _)) (by intro u hu; simp [callRow] at hu; rcases hu with rfl | rfl | rfl | rfl | rfl <;> rfl) (by omega) (by unfold maxLen; omega) (by omega) (by simp; omega) (wr.heap.size + 1) (by simp) ?_; intro g cp wA hown hgrow hat hlt)
      go_roundg (n - (i + 1))
      case measure => omega
      case rel =>
        refine ⟨i + 1, rfl, hin, by first | rfl | simp, by rfl, Lib.hid (.inr trivial), Lib.hid ⟨?_, ?_, ?_⟩⟩
        · exact (HB.out.alloc hbase (Obj.cells (callRow (halfCall i)).toArray 57)).grown hgrow (by simp; omega) (fun k hk => by have := (HO.out.lt k hk).1; have := wlt.out; omega)
        · refine (hgrow.block w.heap.size (by simp; have := wlt.out; omega) ?_).trans (heap_alloc_lt HR.out)
          exact own_ne HO.out HR.out (by decide)
        · rw [halfCalls_succ, callFlat_snoc]
          exact hown
    · have hiz : ¬ ((i : Int) < (n : Int)) := by omega
      have hieq : i = n := by omega
      subst hieq
      have hg := half_good m1 m2 n1 n2
      obtain ⟨p, hp⟩ : ∃ p, p = PC.run (halfR m) (PC.start (halfR m) 0) (halfCalls i) := ⟨_, rfl⟩
      unfold halfGood at hg
      simp only [← hp, Bool.and_eq_true, beq_iff_eq] at hg
      obtain ⟨g1, g2, g3⟩ := hg
      have ho2 := HO.out
      rw [← halfCalls_len i] at ho2
      have HP := Lib.hid (playCalls_any (halfR m) 0 u6 (halfCalls i) wr (by show (0 : Int) ≤ 0; omega) ⟨by show (0 : Int) ≤ 0; decide, by show (0 : Int) < 256; decide, by show (0 : Int) ≤ 4; decide, by show (4 : Int) < 256; decide⟩ (by show (0 : Int) ≤ _; decide) (by show (10 : Int) ≤ _; decide) (by decide) (by decide) (own_calls ho2) (by rw [halfCalls_len]; omega)
        (PC.fine_of _ _ (n := 0) (by
          intro k hk
          simp [halfCalls] at hk
          rcases hk with rfl | ⟨j, _, rfl⟩
          · decide
          · unfold halfCall; dsimp only; split <;> decide) (by show (-1000000000000000 : Int) ≤ 0; decide) (by show (0 : Int) ≤ _; decide) (by rw [halfCalls_len]; omega))
        (.inl (by
          intro k hk
          simp [halfCalls] at hk
          rcases hk with rfl | ⟨j, _, rfl⟩ <;> rfl)) (.inr (.inl (by rw [← hp]; exact g2))))
      have HPP := Lib.hid hp
      have G1 := Lib.hid g1
      have c1 := blk_cell HR.out
      have zr := size_of_heap HR.out
      have g2' : p.c.state = 1 := g2
      rw [← hp] at HP
      obtain ⟨p6, k6, hu6⟩ := row_len HO.out
      subst hu6
      clear hp g1 g2 ho2
      go_wp2_with fail
      refine HP.out.mono ?_
      rintro e w3 ⟨vo, vc, rfl, ho, _, hb3⟩
      rw [g3] at ho
      obtain ⟨po, ko, rfl⟩ := row_len ho
      have HO3 := Lib.hid ho
      have B3 := Lib.hid (HB.out.trans (hb3.mono HB.out.size))
      rw [g2']
      clear ho hb3 c1 zr
      go_wp2_with fail
      go_loopg [39] (i + 1) (fun g s39 wx => ∃ j : Nat, g = i + 1 - j ∧ j ≤ i + 1 ∧ s39 = .int .i64 (j : Int) ∧ Hid (Below w3.heap.size w3 wx))
      case atStart => exact ⟨0, rfl, Nat.zero_le _, rfl, Lib.hid (Below.refl _ _)⟩
      case round =>
        obtain ⟨j, rfl, hj, rfl, hh⟩ := hrel
        by_cases hjn : j < i + 1
        · have hjz : (j : Int) < (i : Int) + 1 := by omega
          obtain ⟨x, hx⟩ : ∃ x, p.out[j]? = some x := ⟨_, List.getElem?_eq_getElem (by omega)⟩
          have hran : x.ran = true := by
            have := G1.out
            rw [List.all_eq_true] at this
            exact this x (List.mem_of_getElem? hx)
          have ho2 := owns_keep HO3.out fun g hg => hh.out.block g (HO3.out.lt g hg).2
          obtain ⟨g1, rfl, k1⟩ := row_cut ho2 (by omega)
          have a0 : wr.cell? ⟨g1, j * 10, none⟩ = some (.bool true) := by rw [← hran]; exact k1 _ _ ((toldFlat_get hx (j := 0) (by omega)).trans rfl)
          have a1 : wr.cell? ⟨g1, j * 10 + 1, none⟩ = some (.int .i64 x.val) := k1 _ _ ((toldFlat_get hx (j := 1) (by omega)).trans rfl)
          have a2 : wr.cell? ⟨g1, j * 10 + 2, none⟩ = some (.int .i64 x.err) := k1 _ _ ((toldFlat_get hx (j := 2) (by omega)).trans rfl)
          have a3 : wr.cell? ⟨g1, j * 10 + 3, none⟩ = some (.bool x.pan) := k1 _ _ ((toldFlat_get hx (j := 3) (by omega)).trans rfl)
          have a4 : wr.cell? ⟨g1, j * 10 + 4, none⟩ = some (.int .u32 x.cnt.r) := k1 _ _ ((toldFlat_get hx (j := 4) (by omega)).trans rfl)
          have a5 : wr.cell? ⟨g1, j * 10 + 5, none⟩ = some (.int .u32 x.cnt.s) := k1 _ _ ((toldFlat_get hx (j := 5) (by omega)).trans rfl)
          have a6 : wr.cell? ⟨g1, j * 10 + 6, none⟩ = some (.int .u32 x.cnt.f) := k1 _ _ ((toldFlat_get hx (j := 6) (by omega)).trans rfl)
          have a7 : wr.cell? ⟨g1, j * 10 + 7, none⟩ = some (.int .u32 x.cnt.x) := k1 _ _ ((toldFlat_get hx (j := 7) (by omega)).trans rfl)
          have a8 : wr.cell? ⟨g1, j * 10 + 8, none⟩ = some (.int .u32 x.cnt.g) := k1 _ _ ((toldFlat_get hx (j := 8) (by omega)).trans rfl)
          have a9 : wr.cell? ⟨g1, j * 10 + 9, none⟩ = some (.int .u32 x.cnt.h) := k1 _ _ ((toldFlat_get hx (j := 9) (by omega)).trans rfl)
          have HJ := Lib.hid hh.out
          clear hh ho2 k1 hx hran
          go_wp2_with fail
          go_roundg (i + 1 - (j + 1))
          case measure => omega
          case rel => exact ⟨j + 1, rfl, hjn, by first | rfl | simp, Lib.hid (HJ.out.alloc (by exact HJ.out.size) _)⟩
        · have hjz : ¬ ((j : Int) < (i : Int) + 1) := by omega
          have HJ := Lib.hid (B3.out.trans (hh.out.mono B3.out.size))
          clear hh
          go_wp2_with fail
          refine (brWorks_any _).mono ?_
          rintro e wz ⟨rfl, hbz⟩
          go_wp2_with fail
          go_ret
          exact ⟨rfl, HJ.out.trans (hbz.mono HJ.out.size)⟩

theorem fnExcludedHalf_row (most times : Int) (w : World) (_ : IntKind.u32.min ≤ most ∧ most ≤ IntKind.u32.max) (_ : IntKind.i64.min ≤ times ∧ times ≤ IntKind.i64.max) :
    Calls Try.prog 12 #[.int .u32 most, .int .i64 times] w fun e w' => e = .returned (.bool true) ∧ Below w.heap.size w w' := FnExcludedHalf_any most times w

end Go.Proofs.Ytcjklacfoldaoaa
