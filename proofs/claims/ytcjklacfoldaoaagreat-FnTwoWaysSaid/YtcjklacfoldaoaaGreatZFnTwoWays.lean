import Derived.BigQuiet
import Derived.Deep.RegionHeld3
import Derived.Test.YtcjklacfoldaoaaGreatStepsW
import Derived.Test.YtcjklacfoldaoaaGreatRows
import Derived.Test.YtcjklacfoldaoaaGreatPartZ
/- The law FnTwoWays as a contract: it is true. Conditions: the calls can be read, the rules' numbers are in their types' ranges. -/
namespace Go.Proofs.YtcjklacfoldaoaaGreat
open Go.RowKit
attribute [local go_sem ↓] Go.wp_at_zero Go.wp_at_succ

set_option maxRecDepth 100000 in
set_option maxHeartbeats 4000000 in
theorem FnTwoWays_any (r : Rules) (start : Int) (va : Value) (l : List Call) (w : World) (rok : r.Ok) (m0 : 0 ≤ r.most) (m1 : r.most < 4294967296) (ha : CallsAt w va l) :
    Calls Tryz.prog 7 #[rulesV r, .int .i64 start, va] w fun e w' => e = .returned (.bool true) ∧ Below w.heap.size w w' := by
  have HAT := Lib.hid ha
  obtain ⟨pa, cap, rfl, _⟩ := ha
  have RO := Lib.hid rok
  clear rok
  unfold rulesV
  by_cases hf : r.name.size ≤ 2147483647
  · by_cases hn : l.length ≤ 2147483647
    · have hnz : (l.length : Int) ≤ 2147483647 := by omega
      cases hA : areCalls r start l with
      | false =>
        have AA := Lib.hid hA
        clear hA
        go_enter Tryz.func7, Tryz.ntmps7
        go_wp2_with fail
        refine (fits_yes r _ hf).mono ?_
        rintro e w2 ⟨rfl, hb2⟩
        have B2 := Lib.hid (((Below.refl _ _).alloc (Nat.le_refl _) _).trans (hb2.mono (by simp)) : Below w.heap.size w w2)
        have R2 := Lib.hid ((hb2.block w.heap.size (by simp)).trans (heap_alloc_new w (Obj.cells (rulesArr r) 24)))
        clear hb2
        have c2 : ∀ i, w2.cell? ⟨w.heap.size, i, none⟩ = #[.string r.name, .int .u32 r.most, .int .i64 r.interval, .int .i64 r.bucket, .int .i64 r.timeout, .int .i64 r.trip, .int .u32 r.bound, .bool r.hasGood, .int .u8 r.good, .bool r.hasOut, .int .u8 r.out][i]? := blk_cell R2.out
        have z2 := size_of_heap R2.out
        go_wp2_with fail
        refine (areCalls_any r start _ l _ RO.out m0 m1 (HAT.out.below B2.out)).mono ?_
        rintro e w3 ⟨rfl, hb3⟩
        rw [AA.out]
        have B3 := Lib.hid (B2.out.trans (hb3.mono B2.out.size))
        have R3 := Lib.hid ((hb3.block w.heap.size (size_of_heap R2.out)).trans R2.out)
        clear hb3 c2 z2
        have c3 : ∀ i, w3.cell? ⟨w.heap.size, i, none⟩ = #[.string r.name, .int .u32 r.most, .int .i64 r.interval, .int .i64 r.bucket, .int .i64 r.timeout, .int .i64 r.trip, .int .u32 r.bound, .bool r.hasGood, .int .u8 r.good, .bool r.hasOut, .int .u8 r.out][i]? := blk_cell R3.out
        have z3 := size_of_heap R3.out
        go_wp2_with fail
        refine (brWorks_any _).mono ?_
        rintro e wz ⟨rfl, hbz⟩
        go_wp2_with fail
        go_ret
        exact ⟨rfl, B3.out.trans (hbz.mono B3.out.size)⟩
      | true =>
        have AA := Lib.hid hA
        have hq := csaid RO.out hA m0 m1
        obtain ⟨q, hqq⟩ : ∃ q, q = SC.run r (SC.start r start) l := ⟨_, rfl⟩
        have HQ := Lib.hid hqq
        rw [← hqq] at hq
        clear hqq
        have SA := Lib.hid hq
        clear hA hq
        go_enter Tryz.func7, Tryz.ntmps7
        go_wp2_with fail
        refine (fits_yes r _ hf).mono ?_
        rintro e w2 ⟨rfl, hb2⟩
        have B2 := Lib.hid (((Below.refl _ _).alloc (Nat.le_refl _) _).trans (hb2.mono (by simp)) : Below w.heap.size w w2)
        have R2 := Lib.hid ((hb2.block w.heap.size (by simp)).trans (heap_alloc_new w (Obj.cells (rulesArr r) 24)))
        clear hb2
        have c2 : ∀ i, w2.cell? ⟨w.heap.size, i, none⟩ = #[.string r.name, .int .u32 r.most, .int .i64 r.interval, .int .i64 r.bucket, .int .i64 r.timeout, .int .i64 r.trip, .int .u32 r.bound, .bool r.hasGood, .int .u8 r.good, .bool r.hasOut, .int .u8 r.out][i]? := blk_cell R2.out
        have z2 := size_of_heap R2.out
        go_wp2_with fail
        refine (areCalls_any r start _ l _ RO.out m0 m1 (HAT.out.below B2.out)).mono ?_
        rintro e w3 ⟨rfl, hb3⟩
        rw [AA.out]
        have B3 := Lib.hid (B2.out.trans (hb3.mono B2.out.size))
        have R3 := Lib.hid ((hb3.block w.heap.size (size_of_heap R2.out)).trans R2.out)
        clear hb3 c2 z2
        have c3 : ∀ i, w3.cell? ⟨w.heap.size, i, none⟩ = #[.string r.name, .int .u32 r.most, .int .i64 r.interval, .int .i64 r.bucket, .int .i64 r.timeout, .int .i64 r.trip, .int .u32 r.bound, .bool r.hasGood, .int .u8 r.good, .bool r.hasOut, .int .u8 r.out][i]? := blk_cell R3.out
        have z3 := size_of_heap R3.out
        have HCR := Lib.hid (fun (j : Nat) (k : Call) (h : l[j]? = some k) => h)
        have W3 := Lib.hid (HAT.out.below B3.out)
        clear c3
        go_wp2_with fail
        go_loopg [34] l.length (fun g s34 wx => ∃ i : Nat, g = l.length - i ∧ i ≤ l.length ∧ s34 = .int .i64 (i : Int) ∧ Hid (Below w3.heap.size w3 wx ∧ ∀ (j : Nat) (k : Call), j < i → l[j]? = some k → k.pan = false))
        case atStart => exact ⟨0, rfl, Nat.zero_le _, rfl, Lib.hid ⟨Below.refl _ _, fun j k hj => absurd hj (Nat.not_lt_zero _)⟩⟩
        case round =>
        obtain ⟨i, rfl, hi, rfl, hh⟩ := hrel
        obtain ⟨hB, hP⟩ := hh.out
        have HB := Lib.hid hB
        have HP := Lib.hid hP
        clear hh hB hP
        by_cases hin : i < l.length
        · have hiz : (i : Int) < (l.length : Int) := by omega
          obtain ⟨a, hla⟩ : ∃ a, l[i]? = some a := ⟨_, List.getElem?_eq_getElem hin⟩
          obtain ⟨_, _, he, hacts⟩ := W3.out
          cases he
          obtain ⟨ab, ao, rfl, hblk, hcell⟩ := hacts i a hla
          have hbc := fun j u hj => (HB.out.cell (p := ⟨ab, ao + i * 5 + j, none⟩) hblk).trans (hcell j u hj)
          have k0 : wr.cell? ⟨ab, ao + i * 5, none⟩ = some (.int .i64 a.wait) := hbc 0 _ rfl
          have k1 := hbc 1 _ rfl
          have k2 := hbc 2 _ rfl
          have k3 := hbc 3 _ rfl
          have k4 := hbc 4 _ rfl
          have LA := Lib.hid hla
          clear hbc hcell hla hacts
          cases hp : a.pan with
          | true =>
            rw [hp] at k4
            go_wp2_with fail
            refine (brWorks_any _).mono ?_
            rintro e wz ⟨rfl, hbz⟩
            go_wp2_with fail
            go_ret
            exact ⟨rfl, B3.out.trans ((HB.out.trans (((Below.refl _ _).alloc (Nat.le_refl _) _ |>.trans (hbz.mono (by simp))).mono HB.out.size)).mono B3.out.size)⟩
          | false =>
            rw [hp] at k4
            have HPP := Lib.hid hp
            clear hp
            go_wp2_with fail
            go_roundg (l.length - (i + 1))
            case measure => omega
            case rel =>
              refine ⟨i + 1, rfl, hin, by first | rfl | (simp; done), Lib.hid ⟨HB.out.alloc HB.out.size _, ?_⟩⟩
              intro j k hj hk
              rcases Nat.lt_or_ge j i with h | h
              · exact HP.out j k h hk
              · have e : j = i := by omega
                subst e
                rw [LA.out] at hk
                cases hk
                exact HPP.out
        · have hiz : ¬ ((i : Int) < (l.length : Int)) := by omega
          have hpan : ∀ k ∈ l, k.pan = false := by
            intro k hk
            obtain ⟨j, hj⟩ := List.getElem?_of_mem hk
            have hjl : j < l.length := by
              rcases Nat.lt_or_ge j l.length with h | h
              · exact h
              · rw [List.getElem?_eq_none h] at hj; cases hj
            exact HP.out j k (by omega) hj
          obtain ⟨q2, hw2⟩ := ways RO.out AA.out m0 m1 HQ.out SA.out.opn hpan
          have WY := Lib.hid hw2
          have B4 := Lib.hid (B3.out.trans (HB.out.mono B3.out.size))
          have R4 := Lib.hid ((HB.out.block w.heap.size (size_of_heap R3.out)).trans R3.out)
          have A4 := Lib.hid (W3.out.below HB.out)
          have c4 : ∀ i, wr.cell? ⟨w.heap.size, i, none⟩ = #[.string r.name, .int .u32 r.most, .int .i64 r.interval, .int .i64 r.bucket, .int .i64 r.timeout, .int .i64 r.trip, .int .u32 r.bound, .bool r.hasGood, .int .u8 r.good, .bool r.hasOut, .int .u8 r.out][i]? := blk_cell R4.out
          have z4 := size_of_heap R4.out
          clear hpan hw2 HP HB R3 B3 W3 z3 HCR
          go_wp2_with fail
          refine (SA.out.play _ _ A4.out).mono ?_
          rintro e w5 ⟨vo, vc, rfl, ho, hc, hb5⟩
          have HO := Lib.hid ho
          have HC := Lib.hid hc
          have B5 := Lib.hid (B4.out.trans (hb5.mono B4.out.size))
          have R5 := Lib.hid ((hb5.block w.heap.size (size_of_heap R4.out)).trans R4.out)
          have A5 := Lib.hid (A4.out.below hb5)
          clear ho hc hb5 c4 z4
          have c5 : ∀ i, w5.cell? ⟨w.heap.size, i, none⟩ = #[.string r.name, .int .u32 r.most, .int .i64 r.interval, .int .i64 r.bucket, .int .i64 r.timeout, .int .i64 r.trip, .int .u32 r.bound, .bool r.hasGood, .int .u8 r.good, .bool r.hasOut, .int .u8 r.out][i]? := blk_cell R5.out
          have z5 := size_of_heap R5.out
          have PP := Lib.hid (areCalls_parts AA.out)
          have STW := Lib.hid (fun (W : World) (hW : CallsAt W (Value.slice pa l.length cap) l) => steps_any r start _ l W (mild_of PP.out.1 m0 m1) RO.out (isTime_parts PP.out.2.1).1 (isTime_parts PP.out.2.1).2 hW SA.out.short PP.out.2.2.2.1)
          rw [← HQ.out] at STW
          go_wp2_with fail
          go_region_held3 (fun w' => ∀ i, w'.cell? ⟨w.heap.size, i, none⟩ = #[.string r.name, .int .u32 r.most, .int .i64 r.interval, .int .i64 r.bucket, .int .i64 r.timeout, .int .i64 r.trip, .int .u32 r.bound, .bool r.hasGood, .int .u8 r.good, .bool r.hasOut, .int .u8 r.out][i]?) (first | (go_keep; done) | ((try dsimp only); exact p1))
            ((first
              | (go_at_call 16; refine (WY.out.said.play _ _ (own_acts hso)).mono ?_; rintro e w7 ⟨v2, x2, rfl, ho2, hx2, hb7⟩; have p1 : ∀ i, w7.cell? ⟨w.heap.size, i, none⟩ = #[.string r.name, .int .u32 r.most, .int .i64 r.interval, .int .i64 r.bucket, .int .i64 r.timeout, .int .i64 r.trip, .int .u32 r.bound, .bool r.hasGood, .int .u8 r.good, .bool r.hasOut, .int .u8 r.out][i]? := blk_cell ((hb7.block w.heap.size (size_of_heap R6.out)).trans R6.out))
              | (go_at_call 17; refine (STW.out _ (A5.out.below (Below.refl _ _).drew)).mono ?_; rintro e w6 ⟨vs, rfl, hso, hb6⟩; have R6 := Lib.hid ((hb6.block w.heap.size (size_of_heap (heap_drew R5.out))).trans (heap_drew R5.out)); have p1 : ∀ i, w6.cell? ⟨w.heap.size, i, none⟩ = #[.string r.name, .int .u32 r.most, .int .i64 r.interval, .int .i64 r.bucket, .int .i64 r.timeout, .int .i64 r.trip, .int .u32 r.bound, .bool r.hasGood, .int .u8 r.good, .bool r.hasOut, .int .u8 r.out][i]? := blk_cell R6.out)))
          have B57 := Lib.hid (show Below w5.heap.size w5 w7 from ((Below.refl _ _).drew.trans hb6).trans (hb7.mono hb6.size))
          have H7 := Lib.hid (own_below HO.out B57.out)
          have C7 := Lib.hid (own_below HC.out B57.out)
          have T7 := Lib.hid ho2
          rw [WY.out.chs] at hx2
          have X7 := Lib.hid hx2
          have B7 := Lib.hid (B5.out.trans (B57.out.mono B5.out.size))
          clear ho2 hx2 hb6 hb7 hso p1 c5 z5 R5 R6 B5 HO HC B57 A5 A4 R4 B4 STW
          obtain ⟨po, co, rfl⟩ := row_len H7.out
          obtain ⟨pt, ct, rfl⟩ := row_len T7.out
          have elen := Lib.hid SA.out.len
          have hl1 : l.length ≤ 1000 := SA.out.short
          have elenz : (q.out.length : Int) = (l.length : Int) := by have := elen.out; omega
          go_wp2_with fail
          go_loopg [14, 62] q.out.length (fun g s14 s62 wx => ∃ (i : Nat) (z : Int), g = q.out.length - i ∧ i ≤ q.out.length ∧ s14 = .int .i64 z ∧ s62 = .int .i64 (i : Int) ∧ Hid (Below w7.heap.size w7 wx ∧ z = (pos (q.out.take i) : Int) - 1))
          case atStart => exact ⟨0, -1, rfl, Nat.zero_le _, rfl, rfl, Lib.hid ⟨Below.refl _ _, rfl⟩⟩
          case round =>
          obtain ⟨i, z, rfl, hi, rfl, rfl, hh⟩ := hrel
          obtain ⟨hB, hZ⟩ := hh.out
          have HB2 := Lib.hid hB
          have HZ := Lib.hid hZ
          clear hh hB hZ
          by_cases hin : i < q.out.length
          · have hiz : (i : Int) < (q.out.length : Int) := by omega
            have hil : (i : Int) < (l.length : Int) := by omega
            obtain ⟨x, hx⟩ : ∃ x, q.out[i]? = some x := ⟨_, List.getElem?_eq_getElem hin⟩
            have LX := Lib.hid hx
            obtain ⟨y, hy, hyc⟩ := WY.out.cnt i x hx
            have ppos := pos_take hx
            obtain ⟨P, hP⟩ : ∃ P : Nat, P = pos (q.out.take i) := ⟨_, rfl⟩
            have hPb : P ≤ 2000 := by
              have h1 := pos_le (q.out.take i)
              have h2 : (q.out.take i).length ≤ q.out.length := by simp; omega
              have h3 := elen.out
              omega
            have hzP := Lib.hid (show z = (P : Int) - 1 by rw [HZ.out, hP])
            rw [← hP] at ppos
            have PPOS := Lib.hid ppos
            clear hP hx ppos
            have HTO := Lib.hid (own_below H7.out HB2.out)
            obtain ⟨g1, rfl, c1⟩ := row_part HTO.out (by omega)
            have t0 : wr.cell? ⟨g1, i * 10, none⟩ = some (.bool x.ran) := c1 _ _ ((toldFlat_get LX.out (j := 0) (by omega)).trans rfl)
            have t1 : wr.cell? ⟨g1, i * 10 + 1, none⟩ = some (.int .i64 x.val) := c1 _ _ ((toldFlat_get LX.out (j := 1) (by omega)).trans rfl)
            have t2 : wr.cell? ⟨g1, i * 10 + 2, none⟩ = some (.int .i64 x.err) := c1 _ _ ((toldFlat_get LX.out (j := 2) (by omega)).trans rfl)
            have t3 : wr.cell? ⟨g1, i * 10 + 3, none⟩ = some (.bool x.pan) := c1 _ _ ((toldFlat_get LX.out (j := 3) (by omega)).trans rfl)
            have t4 : wr.cell? ⟨g1, i * 10 + 4, none⟩ = some (.int .u32 x.cnt.r) := c1 _ _ ((toldFlat_get LX.out (j := 4) (by omega)).trans rfl)
            have t5 : wr.cell? ⟨g1, i * 10 + 5, none⟩ = some (.int .u32 x.cnt.s) := c1 _ _ ((toldFlat_get LX.out (j := 5) (by omega)).trans rfl)
            have t6 : wr.cell? ⟨g1, i * 10 + 6, none⟩ = some (.int .u32 x.cnt.f) := c1 _ _ ((toldFlat_get LX.out (j := 6) (by omega)).trans rfl)
            have t7 : wr.cell? ⟨g1, i * 10 + 7, none⟩ = some (.int .u32 x.cnt.x) := c1 _ _ ((toldFlat_get LX.out (j := 7) (by omega)).trans rfl)
            have t8 : wr.cell? ⟨g1, i * 10 + 8, none⟩ = some (.int .u32 x.cnt.g) := c1 _ _ ((toldFlat_get LX.out (j := 8) (by omega)).trans rfl)
            have t9 : wr.cell? ⟨g1, i * 10 + 9, none⟩ = some (.int .u32 x.cnt.h) := c1 _ _ ((toldFlat_get LX.out (j := 9) (by omega)).trans rfl)
            clear c1 HTO
            go_upto_region 17 with fail
            have hX8 := heap_alloc_new wr (Obj.cells (toldArr x) 40)
            have hB8 := HB2.out.alloc HB2.out.size (Obj.cells (toldArr x) 40)
            unfold toldArr at hX8 hB8
            obtain ⟨b8, hb8⟩ : ∃ b8, b8 = wr.heap.size := ⟨_, rfl⟩
            rw [← hb8] at hX8
            rw [← hb8]
            have X8 := Lib.hid hX8
            have B8 := Lib.hid hB8
            clear hX8 hB8 hb8 t0 t1 t2 t3 t4 t5 t6 t7 t8 t9
            generalize (wr.alloc (Obj.cells #[Value.bool x.ran, Value.int IntKind.i64 x.val, Value.int IntKind.i64 x.err, Value.bool x.pan, Value.int IntKind.u32 x.cnt.r, Value.int IntKind.u32 x.cnt.s, Value.int IntKind.u32 x.cnt.f, Value.int IntKind.u32 x.cnt.x, Value.int IntKind.u32 x.cnt.g, Value.int IntKind.u32 x.cnt.h] 40)) = w8 at *
            have hX := X8.out
            have z8 := size_of_heap hX
            have HTY := Lib.hid (own_below T7.out B8.out)
            cases hr : x.ran with
            | true =>
              rw [hr] at hX
              have v := blk_cell hX
              have PQ := PPOS.out
              rw [hr] at PQ
              simp only [if_true] at PQ
              have e1 : IntKind.i64.wrap (z + 1) = (P : Int) := by rw [hzP.out, Int.sub_add_cancel]; exact wrap_small (by omega) (by omega)
              obtain ⟨M, hM⟩ : ∃ M : Nat, M = P + 1 := ⟨_, rfl⟩
              have e2 : IntKind.i64.wrap ((P : Int) + 1) = (M : Int) := by rw [wrap_small (by omega) (by omega)]; omega
              have HM := Lib.hid hM
              have HM1 := Lib.hid (show M = pos (q.out.take (i + 1)) - 1 by omega)
              have HM2 := Lib.hid (show ((pos (q.out.take (i + 1)) : Nat) : Int) - 1 = (M : Int) by omega)
              have hy' := hy
              rw [← HM1.out] at hy'
              have HY := Lib.hid hy'
              have HYC := Lib.hid hyc
              have hMl : M < q2.out.length := by
                rcases Nat.lt_or_ge M q2.out.length with h | h
                · exact h
                · rw [List.getElem?_eq_none h] at hy'; cases hy'
              have hMz : (M : Int) < (q2.out.length : Int) := by omega
              have hMd : decide ((q2.out.length : Int) ≤ (M : Int)) = false := by simp; omega
              have hM0 : (0 : Int) ≤ (M : Int) := by omega
              obtain ⟨g2, rfl, c2⟩ := row_part HTY.out (by omega)
              have y0 : w8.cell? ⟨g2, M * 9 + 2, none⟩ = some (.int .u32 x.cnt.r) := by rw [← HYC.out]; exact c2 _ _ ((ansFlat_get HY.out (j := 2) (by omega)).trans rfl)
              have y1 : w8.cell? ⟨g2, M * 9 + 3, none⟩ = some (.int .u32 x.cnt.s) := by rw [← HYC.out]; exact c2 _ _ ((ansFlat_get HY.out (j := 3) (by omega)).trans rfl)
              have y2 : w8.cell? ⟨g2, M * 9 + 4, none⟩ = some (.int .u32 x.cnt.f) := by rw [← HYC.out]; exact c2 _ _ ((ansFlat_get HY.out (j := 4) (by omega)).trans rfl)
              have y3 : w8.cell? ⟨g2, M * 9 + 5, none⟩ = some (.int .u32 x.cnt.x) := by rw [← HYC.out]; exact c2 _ _ ((ansFlat_get HY.out (j := 5) (by omega)).trans rfl)
              have y4 : w8.cell? ⟨g2, M * 9 + 6, none⟩ = some (.int .u32 x.cnt.g) := by rw [← HYC.out]; exact c2 _ _ ((ansFlat_get HY.out (j := 6) (by omega)).trans rfl)
              have y5 : w8.cell? ⟨g2, M * 9 + 7, none⟩ = some (.int .u32 x.cnt.h) := by rw [← HYC.out]; exact c2 _ _ ((ansFlat_get HY.out (j := 7) (by omega)).trans rfl)
              have zg2 : g2 < w8.heap.size := (HTY.out.lt g2 rfl).2
              clear c2 hy hy' hyc PQ hM hX
              go_upto_region 20 with fail
              go_quiet (fail)
              go_wp2_with fail
              go_roundg (q.out.length - (i + 1))
              case measure => omega
              case rel => exact ⟨i + 1, (M : Int), rfl, hin, by first | rfl | (simp; done), by first | rfl | (simp; done), Lib.hid ⟨B8.out.trans (below_drewN _), HM2.out.symm⟩⟩
            | false =>
              rw [hr] at hX
              have v := blk_cell hX
              have PQ := PPOS.out
              rw [hr] at PQ
              simp only [Bool.false_eq_true, if_false] at PQ
              obtain ⟨M, hM⟩ : ∃ M : Nat, M = P := ⟨_, rfl⟩
              have e1 : IntKind.i64.wrap (z + 1) = (M : Int) := by rw [hzP.out, Int.sub_add_cancel, hM]; exact wrap_small (by omega) (by omega)
              have HM := Lib.hid hM
              have HM1 := Lib.hid (show M = pos (q.out.take (i + 1)) - 1 by omega)
              have HM2 := Lib.hid (show ((pos (q.out.take (i + 1)) : Nat) : Int) - 1 = (M : Int) by omega)
              have hy' := hy
              rw [← HM1.out] at hy'
              have HY := Lib.hid hy'
              have HYC := Lib.hid hyc
              have hMl : M < q2.out.length := by
                rcases Nat.lt_or_ge M q2.out.length with h | h
                · exact h
                · rw [List.getElem?_eq_none h] at hy'; cases hy'
              have hMz : (M : Int) < (q2.out.length : Int) := by omega
              have hMd : decide ((q2.out.length : Int) ≤ (M : Int)) = false := by simp; omega
              have hM0 : (0 : Int) ≤ (M : Int) := by omega
              obtain ⟨g2, rfl, c2⟩ := row_part HTY.out (by omega)
              have y0 : w8.cell? ⟨g2, M * 9 + 2, none⟩ = some (.int .u32 x.cnt.r) := by rw [← HYC.out]; exact c2 _ _ ((ansFlat_get HY.out (j := 2) (by omega)).trans rfl)
              have y1 : w8.cell? ⟨g2, M * 9 + 3, none⟩ = some (.int .u32 x.cnt.s) := by rw [← HYC.out]; exact c2 _ _ ((ansFlat_get HY.out (j := 3) (by omega)).trans rfl)
              have y2 : w8.cell? ⟨g2, M * 9 + 4, none⟩ = some (.int .u32 x.cnt.f) := by rw [← HYC.out]; exact c2 _ _ ((ansFlat_get HY.out (j := 4) (by omega)).trans rfl)
              have y3 : w8.cell? ⟨g2, M * 9 + 5, none⟩ = some (.int .u32 x.cnt.x) := by rw [← HYC.out]; exact c2 _ _ ((ansFlat_get HY.out (j := 5) (by omega)).trans rfl)
              have y4 : w8.cell? ⟨g2, M * 9 + 6, none⟩ = some (.int .u32 x.cnt.g) := by rw [← HYC.out]; exact c2 _ _ ((ansFlat_get HY.out (j := 6) (by omega)).trans rfl)
              have y5 : w8.cell? ⟨g2, M * 9 + 7, none⟩ = some (.int .u32 x.cnt.h) := by rw [← HYC.out]; exact c2 _ _ ((ansFlat_get HY.out (j := 7) (by omega)).trans rfl)
              have zg2 : g2 < w8.heap.size := (HTY.out.lt g2 rfl).2
              clear c2 hy hy' hyc PQ hM hX
              go_upto_region 20 with fail
              go_quiet (fail)
              go_wp2_with fail
              go_roundg (q.out.length - (i + 1))
              case measure => omega
              case rel => exact ⟨i + 1, (M : Int), rfl, hin, by first | rfl | (simp; done), by first | rfl | (simp; done), Lib.hid ⟨B8.out.trans (below_drewN _), HM2.out.symm⟩⟩
          · have hiz : ¬ ((i : Int) < (q.out.length : Int)) := by omega
            have hzl : z = (q2.out.length : Int) - 1 := by
              rw [HZ.out, show i = q.out.length by omega, List.take_length, ← WY.out.len]
            have hqb : q2.out.length ≤ 2000 := by
              have h1 := WY.out.said.len
              have h2 := WY.out.said.short
              omega
            have hz2 : IntKind.i64.wrap ((q2.out.length : Int) - 1) = z := by
              rw [hzl]
              simp [IntKind.wrap, IntKind.signed, IntKind.bits]
              omega
            have HC9 := Lib.hid (own_below C7.out HB2.out)
            have HX9 := Lib.hid (own_below X7.out HB2.out)
            have B9 := Lib.hid (B7.out.trans (HB2.out.mono B7.out.size))
            have hNb : q.s.chs.length ≤ 4000 := SA.out.chs
            have ee : ((q.out.length : Int) == (l.length : Int)) = true := by simpa using elenz
            have ez : (z == z) = true := by simp
            clear hzl hqb HZ
            obtain ⟨p2, c2, rfl⟩ := row_len X7.out
            rcases HC9.out.2 with ⟨e1, e2⟩ | ⟨gc, capc, cur, e1, hbc, hgc, hle, hmx, _⟩
            · subst e1
              have hNz : (q.s.chs.length : Int) = 0 := by omega
              rw [e2] at HX9 HC9 ⊢
              go_wp2_with fail
              refine (sameChanges_any _ _ q.s.chs _ _ _ (by rw [e2]; exact HC9.out) (by rw [e2]; exact HX9.out) (by omega)).mono ?_
              rintro e w10 ⟨rfl, hb10⟩
              go_wp2_with fail
              refine (brWorks_any _).mono ?_
              rintro e wz ⟨rfl, hbz⟩
              go_wp2_with fail
              go_ret
              exact ⟨rfl, B9.out.trans ((hb10.trans (hbz.mono hb10.size)).mono B9.out.size)⟩
            · subst e1
              obtain ⟨N, hN⟩ : ∃ N, N = q.s.chs.length := ⟨_, rfl⟩
              rw [← hN] at HX9 HC9 hle hNb ⊢
              have hlez : (N : Int) ≤ (capc : Int) := by omega
              have hN0 : (0 : Int) ≤ (N : Int) := by omega
              go_wp2_with fail
              refine (sameChanges_any _ _ q.s.chs _ _ _ (by rw [← hN]; exact HC9.out) (by rw [← hN]; exact HX9.out) (by omega)).mono ?_
              rintro e w10 ⟨rfl, hb10⟩
              go_wp2_with fail
              refine (brWorks_any _).mono ?_
              rintro e wz ⟨rfl, hbz⟩
              go_wp2_with fail
              go_ret
              exact ⟨rfl, B9.out.trans ((hb10.trans (hbz.mono hb10.size)).mono B9.out.size)⟩
    · have hnz : ¬ ((l.length : Int) ≤ 2147483647) := by omega
      go_enter Tryz.func7, Tryz.ntmps7
      go_wp2_with fail
      refine (fits_yes r _ hf).mono ?_
      rintro e w2 ⟨rfl, hb2⟩
      have B2 := Lib.hid (((Below.refl _ _).alloc (Nat.le_refl _) _).trans (hb2.mono (by simp)) : Below w.heap.size w w2)
      have R2 := Lib.hid ((hb2.block w.heap.size (by simp)).trans (heap_alloc_new w (Obj.cells (rulesArr r) 24)))
      clear hb2
      have c2 : ∀ i, w2.cell? ⟨w.heap.size, i, none⟩ = #[.string r.name, .int .u32 r.most, .int .i64 r.interval, .int .i64 r.bucket, .int .i64 r.timeout, .int .i64 r.trip, .int .u32 r.bound, .bool r.hasGood, .int .u8 r.good, .bool r.hasOut, .int .u8 r.out][i]? := blk_cell R2.out
      have z2 := size_of_heap R2.out
      go_wp2_with fail
      go_ret
      exact ⟨rfl, B2.out⟩
  · skip
    go_enter Tryz.func7, Tryz.ntmps7
    go_wp2_with fail
    refine (fits_no r _ hf).mono ?_
    rintro e w2 ⟨rfl, hb2⟩
    have B2 := Lib.hid (((Below.refl _ _).alloc (Nat.le_refl _) _).trans (hb2.mono (by simp)) : Below w.heap.size w w2)
    have R2 := Lib.hid ((hb2.block w.heap.size (by simp)).trans (heap_alloc_new w (Obj.cells (rulesArr r) 24)))
    clear hb2
    go_wp2_with fail
    go_ret
    exact ⟨rfl, B2.out⟩

theorem fnTwoWays_row (r : Rules) (start : Int) (va : Value) (l : List Call) (w : World) (h : RulesIn r) (_ : IntKind.i64.min ≤ start ∧ start ≤ IntKind.i64.max) (ha : CallsAt w va l) :
    Calls Tryz.prog 7 #[rulesV r, .int .i64 start, va] w fun e w' => e = .returned (.bool true) ∧ Below w.heap.size w w' := FnTwoWays_any r start va l w h.ok h.m0 h.m1 ha

end Go.Proofs.YtcjklacfoldaoaaGreat

/- The row of FnTwoWays: it is true whatever the input, and the input reads as it did. No condition. -/
namespace Go.Proofs.YtcjklacfoldaoaaGreat
open Go.ChangeShapes Go.WideShapes Go.ChangeAt Go.RowKit Go.Deep

theorem fnTwoWays_own : ownKnob Tryz.prog.godebug = none := by kernel_rfl
theorem fnTwoWays_laidOut : laidOutB Tryz.prog = true := by kernel_rfl

set_option maxRecDepth 100000 in
theorem fnTwoWays_lifted (os : Os) (started : os.Started) (H : Type) (enc : TypeId × Value → H) :
    ReturnsInHanded {} Tryz.checked os 7 .any (Rows.fnTwoWaysSpec.pre6 enc Tryz.prog Tryz.f7 Rows.fnTwoWaysRow.domain false) (Rows.fnTwoWaysSpec.post enc Tryz.prog Tryz.f7 false true false false) := by
  refine returnsInHanded_of_change (C := Tryz.checked) fnTwoWays_own started (by kernel_rfl) Tryz.func7
    (ChangeSpec.witness6 (enc := enc) (C := Tryz.checked) false ⟨#[], #[.agg #[.string ⟨#[]⟩, .int .u32 0, .int .i64 0, .int .i64 0, .int .i64 0, .int .i64 0, .int .u32 0, .bool false, .int .u8 0, .bool false, .int .u8 0], .int .i64 0, .slice none 0 0], []⟩ 20 (by kernel_rfl) (by kernel_rfl) (by kernel_rfl) (by kernel_rfl)) ?_
  intro W base args ds gs before hval0 hW hcnd _
  have hval : ∀ (j : Nat) t v, Tryz.f7.params[j]? = some t → args[j]? = some v → Value.okWide Tryz.prog W .any base t v := hval0
  have hW' := hW
  obtain ⟨p, q, hA0, hV, rfl, hfz, hnd⟩ := hW
  have hA : DataW.TrodAll enc Tryz.prog W 0 (fun _ => true) true Tryz.f7.params.toList args.toList ds p := hA0
  rw [Tryz.params7] at hA hval
  obtain ⟨v0, vs0, d0, ds0, p0, q0, e0, rfl, rfl, h0, g0⟩ := trodAll_cons hA
  obtain ⟨v1, vs1, d1, ds1, p1, q1, e1, rfl, rfl, h1, g1⟩ := trodAll_cons g0
  obtain ⟨v2, vs2, d2, ds2, p2, q2, e2, rfl, rfl, h2, g2⟩ := trodAll_cons g1
  obtain ⟨rfl, rfl, rfl⟩ := trodAll_nil g2
  obtain ⟨rfl, rfl⟩ := trodVars_none hV
  subst e2
  subst e1
  have ea : args = #[v0, v1, v2] := by cases args; simp at e0; rw [e0]
  subst ea
  clear e0
  have h0k := h0
  have h1k := h1
  have h2k := h2
  obtain ⟨r0, rfl, w0⟩ := open_rules (hval 0 24 v0 rfl rfl) h0
  obtain ⟨a1, rfl, w1⟩ := open_num Tryz.underlying2 (hval 1 2 v1 rfl rfl) h1
  obtain ⟨l2, w2⟩ := open_calls (hval 2 25 v2 rfl rfl) h2
  clear hA0 hval0
  have hlt : ∀ x ∈ p0 ++ (p1 ++ (p2 ++ [])), x.block < W.heap.size := fun x hx => by
    have := hW'.lt x (by simpa using hx)
    simpa using this
  refine (fnTwoWays_row r0 a1 v2 l2 W w0 w1 w2).mono fun e W' ⟨he, bel⟩ => ?_
  subst he
  refine ⟨_, rfl, ?_⟩
  refine ⟨_, _, _, [], p0 ++ (p1 ++ (p2 ++ [])), [], hW', trodAll_mk1 (shut_bool Tryz.underlying4 true), ?_, rfl, bel.frame _, fun h => by cases h⟩
  exact ⟨p0, _, Below.trod fnTwoWays_laidOut (by kernel_rfl) (of_decide_eq_true (by kernel_rfl)) h0k bel (fun x hx => hlt x (by simp [hx])), ⟨p1, _, Below.trod fnTwoWays_laidOut (by kernel_rfl) (of_decide_eq_true (by kernel_rfl)) h1k bel (fun x hx => hlt x (by simp [hx])), ⟨p2, _, Below.trod fnTwoWays_laidOut (by kernel_rfl) (of_decide_eq_true (by kernel_rfl)) h2k bel (fun x hx => hlt x (by simp [hx])), rfl, rfl⟩, rfl⟩, rfl⟩

theorem fnTwoWays_holds : Rows.FnTwoWaysSaid :=
  OpenClaim.holds_of_wide 7 Tryz.f7 rfl rfl rfl rfl rfl rfl rfl ⟨rfl, rfl, rfl, rfl, rfl⟩ rfl rfl rfl rfl rfl (by kernel_rfl) Tryz.func7 (by kernel_rfl)
    (of_decide_eq_true (by kernel_rfl)) (by unfold Func.isWrapper; first | (rw [if_pos (by decide +kernel)]; kernel_rfl) | (rw [if_neg (by decide +kernel)]; exact ⟨rfl, rfl⟩))
    (fun os started H enc _ => fnTwoWays_lifted os started H enc)

#print axioms fnTwoWays_holds
end Go.Proofs.YtcjklacfoldaoaaGreat
