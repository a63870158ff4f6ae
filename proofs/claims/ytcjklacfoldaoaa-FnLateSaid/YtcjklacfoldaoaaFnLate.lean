/- The law FnLate as a contract: it is true. Conditions: the acts can be read, the rules' numbers are in their types' ranges. -/
import Derived.Test.YtcjklacfoldaoaaPart
import Derived.Test.YtcjklacfoldaoaaOpen
import Derived.Test.YtcjklacfoldaoaaLater
import Derived.Test.YtcjklacfoldaoaaLateP
import Derived.Deep.AppendLies
import Derived.Deep.RegionHeld3
namespace Go.Proofs.Ytcjklacfoldaoaa
open Go.RowKit
attribute [local go_sem ↓] Go.wp_at_zero Go.wp_at_succ

theorem goes_take {l : List Act} {o : List Ans} (h : l.length = o.length) {i : Nat} {a : Act} {x : Ans} (ha : l[i]? = some a) (hx : o[i]? = some x) : goes (l.take (i + 1)) (o.take (i + 1)) = goes (l.take i) (o.take i) ++ (if a.kind = 1 ∧ x.code = 0 then [x.cleared] else []) := by
  rw [List.take_add_one, List.take_add_one, ha, hx]
  exact goes_snoc (by simp [h]) a x
/-- The law's own account: how many have gone, and that the one asked for has not gone at the time. -/
structure Lat (l : List Act) (o : List Ans) (kc cl : Int) (i n : Nat) : Prop where
  num : n = (goes (l.take i) (o.take i)).length
  not : ∀ k : Nat, kc = k → k < n → (goes (l.take i) (o.take i)).getD k 0 ≠ cl
theorem Lat.skip {l : List Act} {o : List Ans} {kc cl : Int} {i n : Nat} (h : Lat l o kc cl i n) (hl : l.length = o.length) {a : Act} {x : Ans} (ha : l[i]? = some a) (hx : o[i]? = some x) (hk : ¬ (a.kind = 1 ∧ x.code = 0)) : Lat l o kc cl (i + 1) n := by
  have e := goes_take hl ha hx
  rw [if_neg hk, List.append_nil] at e
  exact ⟨by rw [e]; exact h.num, by rw [e]; exact h.not⟩
theorem Lat.next {l : List Act} {o : List Ans} {kc cl : Int} {i n : Nat} (h : Lat l o kc cl i n) (hl : l.length = o.length) {a : Act} {x : Ans} (ha : l[i]? = some a) (hx : o[i]? = some x) (hk : a.kind = 1 ∧ x.code = 0) (hn : ¬ (kc = n ∧ x.cleared = cl)) : Lat l o kc cl (i + 1) (n + 1) := by
  have e := goes_take hl ha hx
  rw [if_pos hk] at e
  refine ⟨by rw [e, List.length_append, ← h.num]; rfl, fun k hk1 hk2 => ?_⟩
  rw [e]
  by_cases hkn : k < n
  · have := h.not k hk1 hkn
    have hlt : k < (goes (l.take i) (o.take i)).length := by rw [← h.num]; exact hkn
    rw [List.getD_eq_getElem?_getD] at this ⊢
    rw [List.getElem?_append_left hlt]
    exact this
  · have hkn' : k = n := by omega
    subst hkn'
    rw [List.getD_eq_getElem?_getD, List.getElem?_append_right (by rw [← h.num]; exact Nat.le_refl _), ← h.num, Nat.sub_self]
    intro hc
    exact hn ⟨hk1, hc⟩
theorem actFlat_len (l : List Act) : (actFlat l).length = l.length * 4 := by
  induction l with
  | nil => rfl
  | cons a l ih =>
    show (actRow a ++ actFlat l).length = _
    rw [List.length_append, ih, List.length_cons]
    show 4 + _ = _
    omega
theorem acts_one (l : List Act) : ∀ u ∈ actFlat l, u.oneCell' = true := by
  intro u hu
  obtain ⟨a, _, ha⟩ := List.mem_flatMap.mp hu
  simp [actRow] at ha
  rcases ha with rfl | rfl | rfl | rfl <;> rfl
theorem wrap_i64 {n : Int} (h0 : -9223372036854775808 ≤ n) (h1 : n ≤ 9223372036854775807) : IntKind.i64.wrap n = n := by simp [IntKind.wrap, IntKind.bits, IntKind.signed]; omega
theorem cell_below {w w' : World} (h : Below w.heap.size w w') {a : Addr} {v : Value} (hc : w.cell? a = some v) : w'.cell? a = some v := by
  rw [h.cell (World.block_lt_of_cell? w a hc)]
  exact hc
theorem acts_cells {w : World} {l : List Act} {ab ao n cap : Nat} (h : ActsAt w (.slice (some ⟨ab, ao, none⟩) n cap) l) : ∀ (j : Nat) (u : Value), (actFlat l)[j]? = some u → w.cell? ((⟨ab, ao, none⟩ : Addr).add j) = some u := by
  intro j u hu
  obtain ⟨p, c, hp, hc⟩ := h
  cases hp
  have hadd : (⟨ab, ao, none⟩ : Addr).add j = ⟨ab, ao + j, none⟩ := by unfold Addr.add; split <;> simp_all
  rw [hadd]
  have hlen := actFlat_len l
  have hj : j < (actFlat l).length := by
    rcases Nat.lt_or_ge j (actFlat l).length with h' | h'
    · exact h'
    · rw [List.getElem?_eq_none h'] at hu; cases hu
  have hi : j / 4 < l.length := by omega
  obtain ⟨x, hx⟩ : ∃ x, l[j / 4]? = some x := ⟨_, List.getElem?_eq_getElem hi⟩
  obtain ⟨b, o, hbo, _, hcell⟩ := hc _ x hx
  cases hbo
  have h4 : j % 4 < 4 := by omega
  have e : j = j / 4 * 4 + j % 4 := by omega
  rw [e, actFlat_get hx h4] at hu
  have := hcell _ u hu
  rw [show ao + j = ao + j / 4 * 4 + j % 4 by omega]
  exact this

set_option maxRecDepth 100000 in
set_option maxHeartbeats 4000000 in
theorem FnLate_none (r : Rules) (start : Int) (pa : Option Addr) (cap : Nat) (kc ke : Int) (q : SPlay) (w : World) (m0 : 0 ≤ r.most) (m1 : r.most < 4294967296) (RO : Hid r.Ok) (HAT : Hid (ActsAt w (.slice pa 0 cap) []))
    (hf : r.name.size ≤ 2147483647) (AA : Hid (areActs r start [] = true)) (SA : Hid (Said r start [] q)) (he0 : ¬ ke < 0) (he1 : ¬ 7 ≤ ke) :
    Calls Try.prog 6 #[rulesV r, .int .i64 start, .slice pa 0 cap, .int .i64 kc, .int .i64 ke] w fun e w' => e = .returned (.bool true) ∧ Below w.heap.size w w' := by
  unfold rulesV
  rcases pa with _ | ⟨ab, ao, fz⟩
  all_goals
    go_enter Try.func6, Try.ntmps6
    go_wp2_with fail
    refine (fits_yes r _ hf).mono ?_
    rintro e w2 ⟨rfl, hb2⟩
    have B2 := Lib.hid (((Below.refl _ _).alloc (Nat.le_refl _) _).trans (hb2.mono (by simp)) : Below w.heap.size w w2)
    have R2 := Lib.hid ((hb2.block w.heap.size (by simp)).trans (heap_alloc_new w (Obj.cells (rulesArr r) 24)))
    clear hb2
    have c2 : ∀ i, w2.cell? ⟨w.heap.size, i, none⟩ = #[.string r.name, .int .u32 r.most, .int .i64 r.interval, .int .i64 r.bucket, .int .i64 r.timeout, .int .i64 r.trip, .int .u32 r.bound, .bool r.hasGood, .int .u8 r.good, .bool r.hasOut, .int .u8 r.out][i]? := blk_cell R2.out
    have z2 := size_of_heap R2.out
    go_wp2_with fail
    refine (areActs_any r start _ [] _ RO.out m0 m1 (HAT.out.below B2.out)).mono ?_
    rintro e w3 ⟨rfl, hb3⟩
    rw [AA.out]
    have B3 := Lib.hid (B2.out.trans (hb3.mono B2.out.size))
    have R3 := Lib.hid ((hb3.block w.heap.size (size_of_heap R2.out)).trans R2.out)
    clear hb3 c2 z2
    have c3 : ∀ i, w3.cell? ⟨w.heap.size, i, none⟩ = #[.string r.name, .int .u32 r.most, .int .i64 r.interval, .int .i64 r.bucket, .int .i64 r.timeout, .int .i64 r.trip, .int .u32 r.bound, .bool r.hasGood, .int .u8 r.good, .bool r.hasOut, .int .u8 r.out][i]? := blk_cell R3.out
    have z3 := size_of_heap R3.out
    have TW := Lib.hid (fun (W : World) (v : Value) (hW : ActsAt W v []) => twoStep_any r start v [] W (mild_of (areActs_parts AA.out).1 m0 m1) RO.out (isTime_parts (areActs_parts AA.out).2.1).1 (isTime_parts (areActs_parts AA.out).2.1).2 hW SA.out.short (areActs_parts AA.out).2.2.2.1)
    go_wp2_with fail
    refine (TW.out _ _ (HAT.out.below B3.out)).mono ?_
    rintro e w4 ⟨vo, vc, rfl, hb4, hrows⟩
    obtain ⟨ho, _⟩ := hrows q SA.out.run
    have HO := Lib.hid ho
    clear ho hrows
    have B4 := Lib.hid (B3.out.trans (hb4.mono B3.out.size))
    have R4 := Lib.hid ((hb4.block w.heap.size (size_of_heap R3.out)).trans R3.out)
    clear hb4 c3 z3
    have c4 : ∀ i, w4.cell? ⟨w.heap.size, i, none⟩ = #[.string r.name, .int .u32 r.most, .int .i64 r.interval, .int .i64 r.bucket, .int .i64 r.timeout, .int .i64 r.trip, .int .u32 r.bound, .bool r.hasGood, .int .u8 r.good, .bool r.hasOut, .int .u8 r.out][i]? := blk_cell R4.out
    have z4 := size_of_heap R4.out
    have HA4 := Lib.hid (HAT.out.below B4.out)
    go_upto_region 6 with fail
    obtain ⟨i0, hi0, hz0, hz1, hz2⟩ := info_parts infoAct
    have HE := Lib.hid (show (w4.alloc (Obj.cells #[] 45)).ownsRow w4.heap.size 45 4 (.slice (some ⟨w4.heap.size, 0, none⟩) 0 0) 0 [] from ⟨rfl, .inr ⟨w4.heap.size, 0, #[], rfl, Nat.le_refl _, heap_alloc_new w4 _, Nat.le_refl _, Nat.zero_le _, rfl, rfl⟩⟩)
    go_upto_region 7 with (refine wpList_append_lies _ (by rfl) _ _ _ (by rfl) w4.heap.size 45 i0 (.agg #[.int .i64 0, .int .i64 0, .int .i64 0, .int .i64 0]) 4 32 Try.underlying25 hi0 hz0 hz1 hz2 rfl (by omega) (.slice (some ⟨w4.heap.size, 0, none⟩) 0 0) 0 [] (by rfl) (HE.out.alloc _) ⟨w4.heap.size + 1, 0, none⟩ 1 1 (actRow ⟨2, 0, kc, ke⟩) (by rfl) rfl (by have := World.news_of_block (heap_alloc_new (w4.alloc (Obj.cells #[] 45)) (Obj.cells #[.int .i64 2, .int .i64 0, .int .i64 kc, .int .i64 ke] 45)); rw [show (w4.alloc (Obj.cells #[] 45)).heap.size = w4.heap.size + 1 by simp] at this; exact this) (by intro u hu; simp [actRow] at hu; rcases hu with rfl | rfl | rfl | rfl <;> rfl) (by omega) (by unfold maxLen; omega) (by omega) (by simp; omega) (w4.heap.size + 2) (by simp) ?_; intro g2 cp2 wB hown2 hgrow2 hat2 hlt2)
    have BB := Lib.hid (((B4.out.alloc B4.out.size (Obj.cells #[] 45)).alloc (by have := B4.out.size; simp; omega) (Obj.cells #[.int .i64 2, .int .i64 0, .int .i64 kc, .int .i64 ke] 45)).grown hgrow2 (by have := B4.out.size; simp; omega) (fun k hk => by simp [Value.ownBlock] at hk; omega))
    clear hown2 hgrow2 hat2 c4
    go_wp2_with fail
    refine (brWorks_any _).mono ?_
    rintro e wz ⟨rfl, hbz⟩
    go_wp2_with fail
    go_ret
    exact ⟨rfl, BB.out.trans (hbz.mono BB.out.size)⟩
set_option maxRecDepth 100000 in
set_option maxHeartbeats 4000000 in
theorem FnLate_some (r : Rules) (start : Int) (pa : Option Addr) (cap : Nat) (l : List Act) (kc ke : Int) (q : SPlay) (w : World) (m0 : 0 ≤ r.most) (m1 : r.most < 4294967296) (RO : Hid r.Ok) (HAT : Hid (ActsAt w (.slice pa l.length cap) l))
    (hf : r.name.size ≤ 2147483647) (hnz : (l.length : Int) ≤ 2147483647) (AA : Hid (areActs r start l = true)) (SA : Hid (Said r start l q)) (he0 : ¬ ke < 0) (he1 : ¬ 7 ≤ ke) (hl0 : ¬ l = []) :
    Calls Try.prog 6 #[rulesV r, .int .i64 start, .slice pa l.length cap, .int .i64 kc, .int .i64 ke] w fun e w' => e = .returned (.bool true) ∧ Below w.heap.size w w' := by
  unfold rulesV
  go_enter Try.func6, Try.ntmps6
  go_wp2_with fail
  refine (fits_yes r _ hf).mono ?_
  rintro e w2 ⟨rfl, hb2⟩
  have B2 := Lib.hid (((Below.refl _ _).alloc (Nat.le_refl _) _).trans (hb2.mono (by simp)) : Below w.heap.size w w2)
  have R2 := Lib.hid ((hb2.block w.heap.size (by simp)).trans (heap_alloc_new w (Obj.cells (rulesArr r) 24)))
  clear hb2
  have c2 : ∀ i, w2.cell? ⟨w.heap.size, i, none⟩ = #[.string r.name, .int .u32 r.most, .int .i64 r.interval, .int .i64 r.bucket, .int .i64 r.timeout, .int .i64 r.trip, .int .u32 r.bound, .bool r.hasGood, .int .u8 r.good, .bool r.hasOut, .int .u8 r.out][i]? := blk_cell R2.out
  have z2 := size_of_heap R2.out
  go_wp2_with fail
  refine (areActs_any r start _ l _ RO.out m0 m1 (HAT.out.below B2.out)).mono ?_
  rintro e w3 ⟨rfl, hb3⟩
  rw [AA.out]
  have B3 := Lib.hid (B2.out.trans (hb3.mono B2.out.size))
  have R3 := Lib.hid ((hb3.block w.heap.size (size_of_heap R2.out)).trans R2.out)
  clear hb3 c2 z2
  have c3 : ∀ i, w3.cell? ⟨w.heap.size, i, none⟩ = #[.string r.name, .int .u32 r.most, .int .i64 r.interval, .int .i64 r.bucket, .int .i64 r.timeout, .int .i64 r.trip, .int .u32 r.bound, .bool r.hasGood, .int .u8 r.good, .bool r.hasOut, .int .u8 r.out][i]? := blk_cell R3.out
  have z3 := size_of_heap R3.out
  have TW := Lib.hid (fun (W : World) (v : Value) (hW : ActsAt W v l) => twoStep_any r start v l W (mild_of (areActs_parts AA.out).1 m0 m1) RO.out (isTime_parts (areActs_parts AA.out).2.1).1 (isTime_parts (areActs_parts AA.out).2.1).2 hW SA.out.short (areActs_parts AA.out).2.2.2.1)
  go_wp2_with fail
  refine (TW.out _ _ (HAT.out.below B3.out)).mono ?_
  rintro e w4 ⟨vo, vc, rfl, hb4, hrows⟩
  obtain ⟨ho, _⟩ := hrows q SA.out.run
  have HO := Lib.hid ho
  clear ho hrows
  have B4 := Lib.hid (B3.out.trans (hb4.mono B3.out.size))
  have R4 := Lib.hid ((hb4.block w.heap.size (size_of_heap R3.out)).trans R3.out)
  clear hb4 c3 z3
  have c4 : ∀ i, w4.cell? ⟨w.heap.size, i, none⟩ = #[.string r.name, .int .u32 r.most, .int .i64 r.interval, .int .i64 r.bucket, .int .i64 r.timeout, .int .i64 r.trip, .int .u32 r.bound, .bool r.hasGood, .int .u8 r.good, .bool r.hasOut, .int .u8 r.out][i]? := blk_cell R4.out
  have z4 := size_of_heap R4.out
  have HA4 := Lib.hid (HAT.out.below B4.out)
  go_upto_region 6 with fail
  obtain ⟨i0, hi0, hz0, hz1, hz2⟩ := info_parts infoAct
  have HE := Lib.hid (show (w4.alloc (Obj.cells #[] 45)).ownsRow w4.heap.size 45 4 (.slice (some ⟨w4.heap.size, 0, none⟩) 0 0) 0 [] from ⟨rfl, .inr ⟨w4.heap.size, 0, #[], rfl, Nat.le_refl _, heap_alloc_new w4 _, Nat.le_refl _, Nat.zero_le _, rfl, rfl⟩⟩)
  have AE := Lib.hid (HAT.out.below (B4.out.alloc B4.out.size (Obj.cells #[] 45)))
  obtain ⟨aa, haa⟩ : ∃ aa, l[0]? = some aa := ⟨_, List.getElem?_eq_getElem (List.length_pos_iff.mpr hl0)⟩
  have hpos : 0 < l.length := List.length_pos_iff.mpr hl0
  obtain ⟨ab, ao, rfl⟩ : ∃ ab ao, pa = some ⟨ab, ao, none⟩ := by
    obtain ⟨_, _, hpp, hacts⟩ := HAT.out
    cases hpp
    obtain ⟨ab, ao, hp, _⟩ := hacts 0 aa haa
    exact ⟨ab, ao, hp⟩
  clear haa
  have hsh := SA.out.short
  go_upto_region 7 with (first
    | (refine wpList_append_lies _ (by rfl) _ _ _ (by rfl) w4.heap.size 45 i0 (.agg #[.int .i64 0, .int .i64 0, .int .i64 0, .int .i64 0]) 4 32 Try.underlying25 hi0 hz0 hz1 hz2 rfl (by omega) (.slice (some ⟨w4.heap.size, 0, none⟩) 0 0) 0 [] (by rfl) HE.out ⟨ab, ao, none⟩ l.length cap (actFlat l) (by rfl) (actFlat_len l) (acts_cells AE.out) (acts_one l) hpos (by unfold maxLen; omega) (by omega) (by simp) (w4.heap.size + 1) (by simp) ?_; intro g1 cp1 wA hown1 hgrow1 hat1 hlt1; simp only [Nat.zero_add, List.nil_append] at hown1 ⊢)
    | (refine wpList_append_lies _ (by rfl) _ _ _ (by rfl) w4.heap.size 45 i0 (.agg #[.int .i64 0, .int .i64 0, .int .i64 0, .int .i64 0]) 4 32 Try.underlying25 hi0 hz0 hz1 hz2 rfl (by omega) (.slice (some ⟨g1, 0, none⟩) l.length cp1) l.length (actFlat l) (by rfl) (hown1.alloc _) ⟨wA.heap.size, 0, none⟩ 1 1 (actRow ⟨2, 0, kc, ke⟩) (by rfl) rfl (World.news_of_block (heap_alloc_new wA _)) (by intro u hu; simp [actRow] at hu; rcases hu with rfl | rfl | rfl | rfl <;> rfl) (by omega) (by unfold maxLen; omega) (by omega) (by have := hgrow1.size; simp at this; simp; omega) (wA.heap.size + 1) (by simp) ?_; intro g2 cp2 wB hown2 hgrow2 hat2 hlt2))
  have BX := Lib.hid ((((((Below.refl w4.heap.size w4).alloc (Nat.le_refl _) (Obj.cells #[] 45)).grown hgrow1 (by simp) (fun k hk => by simp [Value.ownBlock] at hk; omega))).alloc (by have := hgrow1.size; simp at this; omega) (Obj.cells #[.int .i64 2, .int .i64 0, .int .i64 kc, .int .i64 ke] 45)).grown hgrow2 (by have := hgrow1.size; simp at this; simp; omega) (fun k hk => by have := (hown1.lt k hk).1; omega))
  have AT := Lib.hid (own_acts (l := l ++ [⟨2, 0, kc, ke⟩]) (v := .slice (some ⟨g2, 0, none⟩) (l.length + 1) cp2) (w := wB) (base := w4.heap.size) (by rw [List.length_append, actFlat_snoc]; exact hown2))
  have HO5 := Lib.hid (own_below HO.out BX.out)
  have B5 := Lib.hid (B4.out.trans (BX.out.mono B4.out.size))
  have R5 := Lib.hid ((BX.out.block w.heap.size z4).trans R4.out)
  clear hown1 hgrow1 hat1 hlt1 hown2 hgrow2 hat2 hlt2 c4 z4 HE AE HO
  have c5 : ∀ i, wB.cell? ⟨w.heap.size, i, none⟩ = #[.string r.name, .int .u32 r.most, .int .i64 r.interval, .int .i64 r.bucket, .int .i64 r.timeout, .int .i64 r.trip, .int .u32 r.bound, .bool r.hasGood, .int .u8 r.good, .bool r.hasOut, .int .u8 r.out][i]? := blk_cell R5.out
  have z5 := size_of_heap R5.out
  obtain ⟨N2, hN2⟩ : ∃ k, k = l.length + 1 := ⟨_, rfl⟩
  rw [← hN2] at AT
  rw [← hN2]
  have HN2 := Lib.hid hN2
  clear hN2
  have elen := SA.out.len
  obtain ⟨m, hm⟩ : ∃ m, l.length = m + 1 := ⟨l.length - 1, by omega⟩
  have HM := Lib.hid hm
  clear hm
  have hm0 : ¬ (l.length = 0) := by omega
  go_wp2_with fail
  refine (areActs_any r start _ (l ++ [⟨2, 0, kc, ke⟩]) _ RO.out m0 m1 AT.out).mono ?_
  rintro e w6 ⟨rfl, hb6⟩
  cases hW : areActs r start (l ++ [⟨2, 0, kc, ke⟩]) with
  | false =>
    have B6 := Lib.hid (B5.out.trans (hb6.mono B5.out.size))
    clear hb6 c5 z5
    go_wp2_with fail
    refine (brWorks_any _).mono ?_
    rintro e wz ⟨rfl, hbz⟩
    go_wp2_with fail
    go_ret
    exact ⟨rfl, B6.out.trans (hbz.mono B6.out.size)⟩
  | true =>
    obtain ⟨q2, hq2⟩ := said RO.out hW m0 m1
    have S2 := Lib.hid hq2
    clear hW hq2
    have B6 := Lib.hid (B5.out.trans (hb6.mono B5.out.size))
    have R6 := Lib.hid ((hb6.block w.heap.size (size_of_heap R5.out)).trans R5.out)
    have HO6 := Lib.hid (own_below HO5.out hb6)
    have AT6 := Lib.hid (AT.out.below (hb6.mono (Nat.le_refl _)))
    have HA6 := Lib.hid (HAT.out.below B6.out)
    clear hb6 c5 z5 HO5 AT
    obtain ⟨w3b, hwb⟩ : ∃ b, w6.ownsRow b 39 9 vo q.out.length (ansFlat q.out) := ⟨_, HO6.out⟩
    clear HO6
    rw [elen] at hwb
    have HO6 := Lib.hid hwb
    obtain ⟨po, ko, rfl⟩ := row_len hwb
    clear hwb
    obtain ⟨y, hy⟩ : ∃ y, q.out[m]? = some y := ⟨_, List.getElem?_eq_getElem (by have := HM.out; omega)⟩
    have hyl : q.out.getLast? = some y := by rw [List.getLast?_eq_getElem?, elen, HM.out]; exact hy
    have tr := trace_said SA.out
    obtain ⟨yc, ye⟩ := tr.last y hyl
    have HY := Lib.hid hy
    have YE := Lib.hid ye
    have YC := Lib.hid yc
    have TR := Lib.hid tr
    clear hy hyl tr yc ye
    go_wp2_with fail
    have hzero : ((l.length : Int) == 0) = false := by have := HM.out; simp; omega
    try rw [hzero]
    clear hzero
    go_loopg [15, 73] l.length (fun g s15 s73 wx => ∃ (i n : Nat), g = l.length - i ∧ i ≤ l.length ∧ s73 = .int .i64 (i : Int) ∧ s15 = .int .i64 (n : Int) ∧ Hid (Below w6.heap.size w6 wx ∧ Lat l q.out kc q.s.cleared i n ∧ n ≤ i))
    case atStart => exact ⟨0, 0, rfl, Nat.zero_le _, rfl, rfl, Lib.hid ⟨Below.refl _ _, ⟨rfl, fun k _ hk => by omega⟩, Nat.le_refl _⟩⟩
    case round =>
      obtain ⟨i, n, rfl, hi, rfl, rfl, hh⟩ := hrel
      by_cases hin : i < l.length
      · have hiz : (i : Int) < (l.length : Int) := by omega
        have hml : (m : Int) < (l.length : Int) := by have := HM.out; omega
        have hm00 : (0 : Int) ≤ (m : Int) := by omega
        have hwm : IntKind.i64.wrap ((l.length : Int) - 1) = (m : Int) := by have := HM.out; have := hsh; rw [show (l.length : Int) - 1 = (m : Int) by omega]; exact wrap_i64 (by omega) (by omega)
        obtain ⟨a, hla⟩ : ∃ a, l[i]? = some a := ⟨_, List.getElem?_eq_getElem hin⟩
        obtain ⟨x, hx⟩ : ∃ x, q.out[i]? = some x := ⟨_, List.getElem?_eq_getElem (by omega)⟩
        obtain ⟨hbel, hLat, hni⟩ := hh.out
        obtain ⟨_, _, hpa, hacts⟩ := HA6.out
        cases hpa
        obtain ⟨ab', ao', hab, hblk, hcell⟩ := hacts i a hla
        cases hab
        have hbc := fun j u hj => (hbel.cell (p := ⟨ab, ao + i * 4 + j, none⟩) hblk).trans (hcell j u hj)
        have k0 : wr.cell? ⟨ab, ao + i * 4, none⟩ = some (.int .i64 a.kind) := hbc 0 _ rfl
        have k1 := hbc 1 _ rfl
        have k2 := hbc 2 _ rfl
        have k3 := hbc 3 _ rfl
        have LA := Lib.hid hla
        have LX := Lib.hid hx
        have LT := Lib.hid hLat
        have HB := Lib.hid hbel
        clear hbc hcell hla hx hLat hh hbel hblk hacts
        go_upto_region 13 with fail
        have A1 := Lib.hid (heap_alloc_new wr (Obj.cells #[Value.int IntKind.i64 a.kind, Value.int IntKind.i64 a.wait, Value.int IntKind.i64 a.call, Value.int IntKind.i64 a.err] 45))
        have BX := Lib.hid (HB.out.alloc (by exact HB.out.size) (Obj.cells #[Value.int IntKind.i64 a.kind, Value.int IntKind.i64 a.wait, Value.int IntKind.i64 a.call, Value.int IntKind.i64 a.err] 45))
        obtain ⟨ka, hka⟩ : ∃ k, k = wr.heap.size := ⟨_, rfl⟩
        rw [← hka] at A1
        rw [← hka]
        clear hka k0 k1 k2 k3 HB
        generalize (wr.alloc (Obj.cells #[Value.int IntKind.i64 a.kind, Value.int IntKind.i64 a.wait, Value.int IntKind.i64 a.call, Value.int IntKind.i64 a.err] 45)) = X1 at *
        have d0 := blk_cell A1.out
        have zk := size_of_heap A1.out
        obtain ⟨g1, rfl, c1⟩ := row_part (own_below HO6.out BX.out) (by omega)
        have a0 : X1.cell? ⟨g1, i * 9, none⟩ = some (.int .i64 x.code) := c1 _ _ ((ansFlat_get LX.out (j := 0) (by omega)).trans rfl)
        have a8 : X1.cell? ⟨g1, i * 9 + 8, none⟩ = some (.int .u64 x.cleared) := c1 _ _ ((ansFlat_get LX.out (j := 8) (by omega)).trans rfl)
        have b8 : X1.cell? ⟨g1, m * 9 + 8, none⟩ = some (.int .u64 q.s.cleared) := by rw [← YE.out]; exact c1 _ _ ((ansFlat_get HY.out (j := 8) (by omega)).trans rfl)
        have nb : (n : Int) ≤ 3000 := by omega
        clear c1 A1
        by_cases ck : a.kind = 1
        · by_cases cc : x.code = 0
          · by_cases cn : (n : Int) = kc
            · cases hce : decide (x.cleared = q.s.cleared) with
              | true =>
                have hb := Lib.hid (B6.out.trans (BX.out.mono B6.out.size))
                have hceq := of_decide_eq_true hce
                rw [hceq] at a8
                clear hce
                go_upto_region 14 with fail
                go_quiet (fail)
                go_wp2_with fail
                refine (brWorks_any _).mono ?_
                rintro e wz ⟨rfl, hbz⟩
                go_wp2_with fail
                go_ret
                exact ⟨rfl, hb.out.trans ((below_drewN _).trans (hbz.mono hb.out.size))⟩
              | false =>
                have hcne := of_decide_eq_false hce
                have LN := Lib.hid (LT.out.next elen.symm LA.out LX.out ⟨ck, cc⟩ (fun z => hcne z.2))
                go_upto_region 14 with fail
                go_quiet (fail)
                go_wp2_with fail
                go_roundg (l.length - (i + 1))
                case measure => omega
                case rel => exact ⟨i + 1, n + 1, rfl, hin, by first | rfl | (simp; done), by first | rfl | (simp; done) | (simp; omega), Lib.hid ⟨BX.out.trans (below_drewN _), LN.out, by omega⟩⟩
            · have cnd : decide ((n : Int) = kc) = false := decide_eq_false cn
              have LN := Lib.hid (LT.out.next elen.symm LA.out LX.out ⟨ck, cc⟩ (fun z => cn z.1.symm))
              go_upto_region 14 with fail
              go_quiet (fail)
              go_wp2_with fail
              go_roundg (l.length - (i + 1))
              case measure => omega
              case rel => exact ⟨i + 1, n + 1, rfl, hin, by first | rfl | (simp; done), by first | rfl | (simp; done) | (simp; omega), Lib.hid ⟨BX.out.trans (below_drewN _), LN.out, by omega⟩⟩
          · have LN := Lib.hid (LT.out.skip elen.symm LA.out LX.out (fun z => cc z.2))
            go_wp2_with fail
            go_roundg (l.length - (i + 1))
            case measure => omega
            case rel => exact ⟨i + 1, n, rfl, hin, by first | rfl | simp, rfl, Lib.hid ⟨BX.out, LN.out, by omega⟩⟩
        · have LN := Lib.hid (LT.out.skip elen.symm LA.out LX.out (fun z => ck z.1))
          go_wp2_with fail
          go_roundg (l.length - (i + 1))
          case measure => omega
          case rel => exact ⟨i + 1, n, rfl, hin, by first | rfl | simp, rfl, Lib.hid ⟨BX.out, LN.out, by omega⟩⟩
      · have hiz : ¬ ((i : Int) < (l.length : Int)) := by omega
        obtain ⟨hbel, hLat, hni⟩ := hh.out
        have hil : i = l.length := by omega
        subst hil
        obtain ⟨⟨cal0, cal1⟩, hsame⟩ := late_same SA.out S2.out
        obtain ⟨kn, hkn⟩ : ∃ kn : Nat, kc = kn := ⟨kc.toNat, by omega⟩
        have hgo : goes (l.take l.length) (q.out.take l.length) = q.went := by rw [List.take_length, ← elen, List.take_length]; exact TR.out.went.symm
        have hne : q.went.getD kc.toNat 0 ≠ q.s.cleared := by
          have h1 := hLat.num
          have h2 := hLat.not kn hkn
          rw [hgo] at h1 h2
          have := h2 (by omega)
          rw [hkn]
          simpa using this
        obtain ⟨sc, so⟩ := hsame hne
        have B7 := Lib.hid (B6.out.trans (hbel.mono B6.out.size))
        have R7 := Lib.hid ((hbel.block w.heap.size (size_of_heap R6.out)).trans R6.out)
        have AT7 := Lib.hid (AT6.out.below hbel)
        have SC := Lib.hid sc
        have SO := Lib.hid so
        clear hbel hLat hni hh hgo hne hsame sc so cal0 cal1 hkn
        have c7 : ∀ i, wr.cell? ⟨w.heap.size, i, none⟩ = #[.string r.name, .int .u32 r.most, .int .i64 r.interval, .int .i64 r.bucket, .int .i64 r.timeout, .int .i64 r.trip, .int .u32 r.bound, .bool r.hasGood, .int .u8 r.good, .bool r.hasOut, .int .u8 r.out][i]? := blk_cell R7.out
        have z7 := size_of_heap R7.out
        go_wp2_with fail
        refine (SA.out.play _ _ (HAT.out.below B7.out)).mono ?_
        rintro e w8 ⟨vo8, vc8, rfl, ho8, hc8, hb8⟩
        have B8 := Lib.hid (B7.out.trans (hb8.mono B7.out.size))
        have R8 := Lib.hid ((hb8.block w.heap.size (size_of_heap R7.out)).trans R7.out)
        have AT8 := Lib.hid (AT7.out.below (hb8.mono (Nat.le_refl _)))
        have HO8 := Lib.hid ho8
        have HC8 := Lib.hid hc8
        clear c7 z7 ho8 hc8 hb8
        have c8 : ∀ i, w8.cell? ⟨w.heap.size, i, none⟩ = #[.string r.name, .int .u32 r.most, .int .i64 r.interval, .int .i64 r.bucket, .int .i64 r.timeout, .int .i64 r.trip, .int .u32 r.bound, .bool r.hasGood, .int .u8 r.good, .bool r.hasOut, .int .u8 r.out][i]? := blk_cell R8.out
        have z8 := size_of_heap R8.out
        go_wp2_with fail
        refine (S2.out.play _ _ AT8.out).mono ?_
        rintro e w9 ⟨vo9, vc9, rfl, ho9, hc9, hb9⟩
        rw [SO.out] at ho9
        rw [SC.out] at hc9
        have B9 := Lib.hid (B8.out.trans (hb9.mono B8.out.size))
        have HC9 := Lib.hid hc9
        have HC9b := Lib.hid (own_below HC8.out hb9)
        have ho8 := own_below HO8.out hb9
        rw [elen] at ho8
        rw [show (q.out ++ [(⟨0, -1, q.s.cnt, q.s.cleared⟩ : Ans)]).length = N2 by rw [List.length_append, elen, HN2.out]; rfl] at ho9
        obtain ⟨p8, k8, rfl⟩ := row_len ho8
        obtain ⟨p9, k9, rfl⟩ := row_len ho9
        obtain ⟨g8, rfl, e8⟩ := row_part ho8 (by omega)
        obtain ⟨g9, rfl, e9⟩ := row_part ho9 (by have := HN2.out; omega)
        have hlast : (q.out ++ [(⟨0, -1, q.s.cnt, q.s.cleared⟩ : Ans)])[l.length]? = some ⟨0, -1, q.s.cnt, q.s.cleared⟩ := by
          rw [List.getElem?_append_right (by omega), elen]; simp
        have a2 : w9.cell? ⟨g8, m * 9 + 2, none⟩ = some (.int .u32 q.s.cnt.r) := by rw [← YC.out]; exact e8 _ _ ((ansFlat_get HY.out (j := 2) (by omega)).trans rfl)
        have a3 : w9.cell? ⟨g8, m * 9 + 3, none⟩ = some (.int .u32 q.s.cnt.s) := by rw [← YC.out]; exact e8 _ _ ((ansFlat_get HY.out (j := 3) (by omega)).trans rfl)
        have a4 : w9.cell? ⟨g8, m * 9 + 4, none⟩ = some (.int .u32 q.s.cnt.f) := by rw [← YC.out]; exact e8 _ _ ((ansFlat_get HY.out (j := 4) (by omega)).trans rfl)
        have a5 : w9.cell? ⟨g8, m * 9 + 5, none⟩ = some (.int .u32 q.s.cnt.x) := by rw [← YC.out]; exact e8 _ _ ((ansFlat_get HY.out (j := 5) (by omega)).trans rfl)
        have a6 : w9.cell? ⟨g8, m * 9 + 6, none⟩ = some (.int .u32 q.s.cnt.g) := by rw [← YC.out]; exact e8 _ _ ((ansFlat_get HY.out (j := 6) (by omega)).trans rfl)
        have a7 : w9.cell? ⟨g8, m * 9 + 7, none⟩ = some (.int .u32 q.s.cnt.h) := by rw [← YC.out]; exact e8 _ _ ((ansFlat_get HY.out (j := 7) (by omega)).trans rfl)
        have d2 : w9.cell? ⟨g9, l.length * 9 + 2, none⟩ = some (.int .u32 q.s.cnt.r) := e9 _ _ ((ansFlat_get hlast (j := 2) (by omega)).trans rfl)
        have d3 : w9.cell? ⟨g9, l.length * 9 + 3, none⟩ = some (.int .u32 q.s.cnt.s) := e9 _ _ ((ansFlat_get hlast (j := 3) (by omega)).trans rfl)
        have d4 : w9.cell? ⟨g9, l.length * 9 + 4, none⟩ = some (.int .u32 q.s.cnt.f) := e9 _ _ ((ansFlat_get hlast (j := 4) (by omega)).trans rfl)
        have d5 : w9.cell? ⟨g9, l.length * 9 + 5, none⟩ = some (.int .u32 q.s.cnt.x) := e9 _ _ ((ansFlat_get hlast (j := 5) (by omega)).trans rfl)
        have d6 : w9.cell? ⟨g9, l.length * 9 + 6, none⟩ = some (.int .u32 q.s.cnt.g) := e9 _ _ ((ansFlat_get hlast (j := 6) (by omega)).trans rfl)
        have d7 : w9.cell? ⟨g9, l.length * 9 + 7, none⟩ = some (.int .u32 q.s.cnt.h) := e9 _ _ ((ansFlat_get hlast (j := 7) (by omega)).trans rfl)
        have hml : (m : Int) < (l.length : Int) := by have := HM.out; omega
        have hm00 : (0 : Int) ≤ (m : Int) := by omega
        have hl00 : (0 : Int) ≤ (l.length : Int) := by omega
        have hwm : IntKind.i64.wrap ((l.length : Int) - 1) = (m : Int) := by have := HM.out; have := hsh; rw [show (l.length : Int) - 1 = (m : Int) by omega]; exact wrap_i64 (by omega) (by omega)
        have hwl : IntKind.i64.wrap ((N2 : Int) - 1) = (l.length : Int) := by have := HN2.out; rw [show (N2 : Int) - 1 = (l.length : Int) by omega]; exact wrap_i64 (by omega) (by omega)
        have hlN : (l.length : Int) < (N2 : Int) := by have := HN2.out; omega
        have hch := SA.out.chs
        clear ho8 ho9 hc9 hb9 e8 e9 hlast c8 z8
        go_upto_region 20 with fail
        go_region_held3 (fun w' => w'.cell? ⟨g8, m * 9 + 2, none⟩ = some (.int .u32 q.s.cnt.r) ∧ w'.cell? ⟨g8, m * 9 + 3, none⟩ = some (.int .u32 q.s.cnt.s) ∧ w'.cell? ⟨g8, m * 9 + 4, none⟩ = some (.int .u32 q.s.cnt.f) ∧ w'.cell? ⟨g8, m * 9 + 5, none⟩ = some (.int .u32 q.s.cnt.x) ∧ w'.cell? ⟨g8, m * 9 + 6, none⟩ = some (.int .u32 q.s.cnt.g) ∧ w'.cell? ⟨g8, m * 9 + 7, none⟩ = some (.int .u32 q.s.cnt.h) ∧ w'.cell? ⟨g9, l.length * 9 + 2, none⟩ = some (.int .u32 q.s.cnt.r) ∧ w'.cell? ⟨g9, l.length * 9 + 3, none⟩ = some (.int .u32 q.s.cnt.s) ∧ w'.cell? ⟨g9, l.length * 9 + 4, none⟩ = some (.int .u32 q.s.cnt.f) ∧ w'.cell? ⟨g9, l.length * 9 + 5, none⟩ = some (.int .u32 q.s.cnt.x) ∧ w'.cell? ⟨g9, l.length * 9 + 6, none⟩ = some (.int .u32 q.s.cnt.g) ∧ w'.cell? ⟨g9, l.length * 9 + 7, none⟩ = some (.int .u32 q.s.cnt.h)) (first | ((try dsimp only); exact ⟨a2, a3, a4, a5, a6, a7, d2, d3, d4, d5, d6, d7⟩) | (go_keep; done))
          ((first
            | (go_at_call 18; refine (brWorks_any _).mono ?_; rintro e wz ⟨rfl, hbz⟩; have BZ := Lib.hid (BY.out.trans (hbz.mono BY.out.size)); have a2 : wz.cell? ⟨g8, m * 9 + 2, none⟩ = some (.int .u32 q.s.cnt.r) := cell_below hbz a2; have a3 : wz.cell? ⟨g8, m * 9 + 3, none⟩ = some (.int .u32 q.s.cnt.s) := cell_below hbz a3; have a4 : wz.cell? ⟨g8, m * 9 + 4, none⟩ = some (.int .u32 q.s.cnt.f) := cell_below hbz a4; have a5 : wz.cell? ⟨g8, m * 9 + 5, none⟩ = some (.int .u32 q.s.cnt.x) := cell_below hbz a5; have a6 : wz.cell? ⟨g8, m * 9 + 6, none⟩ = some (.int .u32 q.s.cnt.g) := cell_below hbz a6; have a7 : wz.cell? ⟨g8, m * 9 + 7, none⟩ = some (.int .u32 q.s.cnt.h) := cell_below hbz a7; have d2 : wz.cell? ⟨g9, l.length * 9 + 2, none⟩ = some (.int .u32 q.s.cnt.r) := cell_below hbz d2; have d3 : wz.cell? ⟨g9, l.length * 9 + 3, none⟩ = some (.int .u32 q.s.cnt.s) := cell_below hbz d3; have d4 : wz.cell? ⟨g9, l.length * 9 + 4, none⟩ = some (.int .u32 q.s.cnt.f) := cell_below hbz d4; have d5 : wz.cell? ⟨g9, l.length * 9 + 5, none⟩ = some (.int .u32 q.s.cnt.x) := cell_below hbz d5; have d6 : wz.cell? ⟨g9, l.length * 9 + 6, none⟩ = some (.int .u32 q.s.cnt.g) := cell_below hbz d6; have d7 : wz.cell? ⟨g9, l.length * 9 + 7, none⟩ = some (.int .u32 q.s.cnt.h) := cell_below hbz d7)
            | (go_at_call 22; refine (sameChanges_any _ _ q.s.chs _ _ _ HC9b.out.drew HC9.out.drew (by omega)).mono ?_; rintro e wy ⟨rfl, hby⟩; have BY := Lib.hid (B9.out.drew.trans (hby.mono B9.out.size)); have a2 : wy.cell? ⟨g8, m * 9 + 2, none⟩ = some (.int .u32 q.s.cnt.r) := cell_below hby a2; have a3 : wy.cell? ⟨g8, m * 9 + 3, none⟩ = some (.int .u32 q.s.cnt.s) := cell_below hby a3; have a4 : wy.cell? ⟨g8, m * 9 + 4, none⟩ = some (.int .u32 q.s.cnt.f) := cell_below hby a4; have a5 : wy.cell? ⟨g8, m * 9 + 5, none⟩ = some (.int .u32 q.s.cnt.x) := cell_below hby a5; have a6 : wy.cell? ⟨g8, m * 9 + 6, none⟩ = some (.int .u32 q.s.cnt.g) := cell_below hby a6; have a7 : wy.cell? ⟨g8, m * 9 + 7, none⟩ = some (.int .u32 q.s.cnt.h) := cell_below hby a7; have d2 : wy.cell? ⟨g9, l.length * 9 + 2, none⟩ = some (.int .u32 q.s.cnt.r) := cell_below hby d2; have d3 : wy.cell? ⟨g9, l.length * 9 + 3, none⟩ = some (.int .u32 q.s.cnt.s) := cell_below hby d3; have d4 : wy.cell? ⟨g9, l.length * 9 + 4, none⟩ = some (.int .u32 q.s.cnt.f) := cell_below hby d4; have d5 : wy.cell? ⟨g9, l.length * 9 + 5, none⟩ = some (.int .u32 q.s.cnt.x) := cell_below hby d5; have d6 : wy.cell? ⟨g9, l.length * 9 + 6, none⟩ = some (.int .u32 q.s.cnt.g) := cell_below hby d6; have d7 : wy.cell? ⟨g9, l.length * 9 + 7, none⟩ = some (.int .u32 q.s.cnt.h) := cell_below hby d7)))
        go_wp2_with fail
        go_ret
        exact ⟨rfl, BZ.out⟩

set_option maxRecDepth 100000 in
set_option maxHeartbeats 4000000 in
theorem FnLate_any (r : Rules) (start : Int) (va : Value) (l : List Act) (kc ke : Int) (w : World) (rok : r.Ok) (m0 : 0 ≤ r.most) (m1 : r.most < 4294967296) (ha : ActsAt w va l) :
    Calls Try.prog 6 #[rulesV r, .int .i64 start, va, .int .i64 kc, .int .i64 ke] w fun e w' => e = .returned (.bool true) ∧ Below w.heap.size w w' := by
  have HAT := Lib.hid ha
  obtain ⟨pa, cap, rfl, _⟩ := ha
  have RO := Lib.hid rok
  clear rok
  unfold rulesV
  by_cases hf : r.name.size ≤ 2147483647
  · by_cases hn : l.length ≤ 2147483647
    · have hnz : (l.length : Int) ≤ 2147483647 := by omega
      cases hA : areActs r start l with
      | false =>
        have AA := Lib.hid hA
        clear hA
        go_enter Try.func6, Try.ntmps6
        go_wp2_with fail
        refine (fits_yes r _ hf).mono ?_
        rintro e w2 ⟨rfl, hb2⟩
        have B2 := Lib.hid (((Below.refl _ _).alloc (Nat.le_refl _) _).trans (hb2.mono (by simp)) : Below w.heap.size w w2)
        have R2 := Lib.hid ((hb2.block w.heap.size (by simp)).trans (heap_alloc_new w (Obj.cells (rulesArr r) 24)))
        clear hb2
        have c2 : ∀ i, w2.cell? ⟨w.heap.size, i, none⟩ = #[.string r.name, .int .u32 r.most, .int .i64 r.interval, .int .i64 r.bucket, .int .i64 r.timeout, .int .i64 r.trip, .int .u32 r.bound, .bool r.hasGood, .int .u8 r.good, .bool r.hasOut, .int .u8 r.out][i]? := blk_cell R2.out
        have z2 := size_of_heap R2.out
        go_wp2_with fail
        refine (areActs_any r start _ l _ RO.out m0 m1 (HAT.out.below B2.out)).mono ?_
        rintro e w3 ⟨rfl, hb3⟩
        rw [AA.out]
        have B3 := Lib.hid (B2.out.trans (hb3.mono B2.out.size))
        have R3 := Lib.hid ((hb3.block w.heap.size (size_of_heap R2.out)).trans R2.out)
        clear hb3 c2 z2
        have c3 : ∀ i, w3.cell? ⟨w.heap.size, i, none⟩ = #[.string r.name, .int .u32 r.most, .int .i64 r.interval, .int .i64 r.bucket, .int .i64 r.timeout, .int .i64 r.trip, .int .u32 r.bound, .bool r.hasGood, .int .u8 r.good, .bool r.hasOut, .int .u8 r.out][i]? := blk_cell R3.out
        have z3 := size_of_heap R3.out
        go_wp2_with fail
        refine (brWorks_any _).mono ?_
        rintro e wz ⟨rfl, hbz⟩
        go_wp2_with fail
        go_ret
        exact ⟨rfl, B3.out.trans (hbz.mono B3.out.size)⟩
      | true =>
        have AA := Lib.hid hA
        obtain ⟨q, hq⟩ := said RO.out hA m0 m1
        have SA := Lib.hid hq
        clear hA hq
        by_cases he0 : ke < 0
        · skip
          go_enter Try.func6, Try.ntmps6
          go_wp2_with fail
          refine (fits_yes r _ hf).mono ?_
          rintro e w2 ⟨rfl, hb2⟩
          have B2 := Lib.hid (((Below.refl _ _).alloc (Nat.le_refl _) _).trans (hb2.mono (by simp)) : Below w.heap.size w w2)
          have R2 := Lib.hid ((hb2.block w.heap.size (by simp)).trans (heap_alloc_new w (Obj.cells (rulesArr r) 24)))
          clear hb2
          have c2 : ∀ i, w2.cell? ⟨w.heap.size, i, none⟩ = #[.string r.name, .int .u32 r.most, .int .i64 r.interval, .int .i64 r.bucket, .int .i64 r.timeout, .int .i64 r.trip, .int .u32 r.bound, .bool r.hasGood, .int .u8 r.good, .bool r.hasOut, .int .u8 r.out][i]? := blk_cell R2.out
          have z2 := size_of_heap R2.out
          go_wp2_with fail
          refine (areActs_any r start _ l _ RO.out m0 m1 (HAT.out.below B2.out)).mono ?_
          rintro e w3 ⟨rfl, hb3⟩
          rw [AA.out]
          have B3 := Lib.hid (B2.out.trans (hb3.mono B2.out.size))
          have R3 := Lib.hid ((hb3.block w.heap.size (size_of_heap R2.out)).trans R2.out)
          clear hb3 c2 z2
          have c3 : ∀ i, w3.cell? ⟨w.heap.size, i, none⟩ = #[.string r.name, .int .u32 r.most, .int .i64 r.interval, .int .i64 r.bucket, .int .i64 r.timeout, .int .i64 r.trip, .int .u32 r.bound, .bool r.hasGood, .int .u8 r.good, .bool r.hasOut, .int .u8 r.out][i]? := blk_cell R3.out
          have z3 := size_of_heap R3.out
          go_wp2_with fail
          refine (brWorks_any _).mono ?_
          rintro e wz ⟨rfl, hbz⟩
          go_wp2_with fail
          go_ret
          exact ⟨rfl, B3.out.trans (hbz.mono B3.out.size)⟩
        · by_cases he1 : 7 ≤ ke
          · skip
            go_enter Try.func6, Try.ntmps6
            go_wp2_with fail
            refine (fits_yes r _ hf).mono ?_
            rintro e w2 ⟨rfl, hb2⟩
            have B2 := Lib.hid (((Below.refl _ _).alloc (Nat.le_refl _) _).trans (hb2.mono (by simp)) : Below w.heap.size w w2)
            have R2 := Lib.hid ((hb2.block w.heap.size (by simp)).trans (heap_alloc_new w (Obj.cells (rulesArr r) 24)))
            clear hb2
            have c2 : ∀ i, w2.cell? ⟨w.heap.size, i, none⟩ = #[.string r.name, .int .u32 r.most, .int .i64 r.interval, .int .i64 r.bucket, .int .i64 r.timeout, .int .i64 r.trip, .int .u32 r.bound, .bool r.hasGood, .int .u8 r.good, .bool r.hasOut, .int .u8 r.out][i]? := blk_cell R2.out
            have z2 := size_of_heap R2.out
            go_wp2_with fail
            refine (areActs_any r start _ l _ RO.out m0 m1 (HAT.out.below B2.out)).mono ?_
            rintro e w3 ⟨rfl, hb3⟩
            rw [AA.out]
            have B3 := Lib.hid (B2.out.trans (hb3.mono B2.out.size))
            have R3 := Lib.hid ((hb3.block w.heap.size (size_of_heap R2.out)).trans R2.out)
            clear hb3 c2 z2
            have c3 : ∀ i, w3.cell? ⟨w.heap.size, i, none⟩ = #[.string r.name, .int .u32 r.most, .int .i64 r.interval, .int .i64 r.bucket, .int .i64 r.timeout, .int .i64 r.trip, .int .u32 r.bound, .bool r.hasGood, .int .u8 r.good, .bool r.hasOut, .int .u8 r.out][i]? := blk_cell R3.out
            have z3 := size_of_heap R3.out
            go_wp2_with fail
            refine (brWorks_any _).mono ?_
            rintro e wz ⟨rfl, hbz⟩
            go_wp2_with fail
            go_ret
            exact ⟨rfl, B3.out.trans (hbz.mono B3.out.size)⟩
          · skip
            by_cases hl0 : l = []
            · subst hl0
              exact FnLate_none r start pa cap kc ke q w m0 m1 RO HAT hf AA SA he0 he1
            · exact FnLate_some r start pa cap l kc ke q w m0 m1 RO HAT hf hnz AA SA he0 he1 hl0
    · have hnz : ¬ ((l.length : Int) ≤ 2147483647) := by omega
      go_enter Try.func6, Try.ntmps6
      go_wp2_with fail
      refine (fits_yes r _ hf).mono ?_
      rintro e w2 ⟨rfl, hb2⟩
      have B2 := Lib.hid (((Below.refl _ _).alloc (Nat.le_refl _) _).trans (hb2.mono (by simp)) : Below w.heap.size w w2)
      have R2 := Lib.hid ((hb2.block w.heap.size (by simp)).trans (heap_alloc_new w (Obj.cells (rulesArr r) 24)))
      clear hb2
      have c2 : ∀ i, w2.cell? ⟨w.heap.size, i, none⟩ = #[.string r.name, .int .u32 r.most, .int .i64 r.interval, .int .i64 r.bucket, .int .i64 r.timeout, .int .i64 r.trip, .int .u32 r.bound, .bool r.hasGood, .int .u8 r.good, .bool r.hasOut, .int .u8 r.out][i]? := blk_cell R2.out
      have z2 := size_of_heap R2.out
      go_wp2_with fail
      go_ret
      exact ⟨rfl, B2.out⟩
  · skip
    go_enter Try.func6, Try.ntmps6
    go_wp2_with fail
    refine (fits_no r _ hf).mono ?_
    rintro e w2 ⟨rfl, hb2⟩
    have B2 := Lib.hid (((Below.refl _ _).alloc (Nat.le_refl _) _).trans (hb2.mono (by simp)) : Below w.heap.size w w2)
    have R2 := Lib.hid ((hb2.block w.heap.size (by simp)).trans (heap_alloc_new w (Obj.cells (rulesArr r) 24)))
    clear hb2
    go_wp2_with fail
    go_ret
    exact ⟨rfl, B2.out⟩

theorem fnLate_row (r : Rules) (start : Int) (va : Value) (l : List Act) (kc ke : Int) (w : World) (h : RulesIn r) (_ : IntKind.i64.min ≤ start ∧ start ≤ IntKind.i64.max) (ha : ActsAt w va l) (_ : IntKind.i64.min ≤ kc ∧ kc ≤ IntKind.i64.max) (_ : IntKind.i64.min ≤ ke ∧ ke ≤ IntKind.i64.max) :
    Calls Try.prog 6 #[rulesV r, .int .i64 start, va, .int .i64 kc, .int .i64 ke] w fun e w' => e = .returned (.bool true) ∧ Below w.heap.size w w' := FnLate_any r start va l kc ke w h.ok h.m0 h.m1 ha

end Go.Proofs.Ytcjklacfoldaoaa
