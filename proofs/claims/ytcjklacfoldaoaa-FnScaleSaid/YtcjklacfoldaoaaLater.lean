/- Contract of Later. Conditions: the acts can be read and are within the bounds, the factor too. -/
import Derived.Test.YtcjklacfoldaoaaPartB
import Derived.Deep.DeepCutAuto
import Derived.Deep.LoopGhost
import Derived.Deep.AppendLies
namespace Go.Proofs.Ytcjklacfoldaoaa
open Go.RowKit
attribute [local go_sem ↓] Go.wp_at_zero Go.wp_at_succ

theorem infoAct : (Try.prog.info? 45).map (fun i => (i.zero, i.size, i.bytes)) = some (some (.agg #[.int .i64 0, .int .i64 0, .int .i64 0, .int .i64 0]), 4, 32) := by kernel_rfl
theorem own_acts {w : World} {base : Nat} {v : Value} {l : List Act} (h : w.ownsRow base 45 4 v l.length (actFlat l)) : ActsAt w v l := by
  by_cases hl : l.length = 0
  · obtain ⟨p, cap, rfl⟩ := row_len h
    refine ⟨p, cap, rfl, fun i x hx => ?_⟩
    rw [List.eq_nil_of_length_eq_zero hl] at hx
    simp at hx
  · obtain ⟨g, cap, cs, rfl, hg, _, _, hc⟩ := row_slice h hl
    exact acts_at hg hc
theorem actFlat_snoc (l : List Act) (a : Act) : actFlat (l ++ [a]) = actFlat l ++ actRow a := by simp [actFlat]

set_option maxRecDepth 100000 in
set_option maxHeartbeats 4000000 in
theorem later_any (va : Value) (l : List Act) (k : Int) (w : World) (ha : ActsAt w va l) (hl : l.length ≤ 2000) (hok : l.all actOk = true) (b0 : 1 ≤ k) (b1 : k ≤ 4096) :
    Calls Try.prog 24 #[va, .int .i64 k] w fun e w' => ∃ v, e = .returned v ∧ w'.ownsRow w.heap.size 45 4 v l.length (actFlat (l.map (slow k))) ∧ Below w.heap.size w w' := by
  obtain ⟨pa, cap, rfl, hacts⟩ := ha
  have HA := Lib.hid hacts
  have HOK := Lib.hid hok
  clear hacts hok
  go_enter Try.func24, Try.ntmps24
  go_wp2_with fail
  go_loopg [5, 10] l.length (fun g s5 s10 wx => ∃ i : Nat, g = l.length - i ∧ i ≤ l.length ∧ s10 = .int .i64 (i : Int) ∧ Hid (Below w.heap.size w wx ∧ wx.ownsRow w.heap.size 45 4 s5 i (actFlat ((l.take i).map (slow k)))))
  case atStart => exact ⟨0, rfl, Nat.zero_le _, rfl, Lib.hid ⟨Below.refl _ _, World.ownsRow_nil _ _ _ _⟩⟩
  case round =>
    obtain ⟨i, rfl, hi, rfl, hh⟩ := hrel
    obtain ⟨hB, hO⟩ := hh.out
    have HB := Lib.hid hB
    have HO := Lib.hid hO
    clear hh hB hO
    by_cases hin : i < l.length
    · have hiz : (i : Int) < (l.length : Int) := by omega
      obtain ⟨a, hla⟩ : ∃ a, l[i]? = some a := ⟨_, List.getElem?_eq_getElem hin⟩
      obtain ⟨ab, ao, rfl, hblk, hcell⟩ := HA.out i a hla
      have hbc := fun j u hj => (HB.out.cell (p := ⟨ab, ao + i * 4 + j, none⟩) hblk).trans (hcell j u hj)
      have k0 : wr.cell? ⟨ab, ao + i * 4, none⟩ = some (.int .i64 a.kind) := hbc 0 _ rfl
      have k1 := hbc 1 _ rfl
      have k2 := hbc 2 _ rfl
      have k3 := hbc 3 _ rfl
      obtain ⟨_, w0, w1, _, _⟩ := actOk_parts (all_get HOK.out hla)
      have p0 : 0 ≤ a.wait * k := Int.mul_nonneg w0 (by omega)
      have p1 : a.wait * k ≤ 4096000000000000000 := by
        have := Int.mul_le_mul w1 b1 (by omega) (by decide : (0 : Int) ≤ 1000000000000000)
        omega
      have LA := Lib.hid hla
      clear hbc hcell hla
      go_upto_region 6 with fail
      have m2 : Mod [wr.heap.size] wr (wr.alloc (Obj.cells #[Value.int IntKind.i64 a.kind, Value.int IntKind.i64 (a.wait * k), Value.int IntKind.i64 a.call, Value.int IntKind.i64 a.err] 45)) := (Mod.refl _ _).alloc _
      have HO2 := Lib.hid (owns_keep HO.out fun g hg => m2.block g (HO.out.lt g hg).2 (by have := (HO.out.lt g hg).2; simp; omega))
      have HB2 := Lib.hid (HB.out.trans (m2.below_of HB.out.size (by have := HB.out.size; simpa using this)))
      have HX : (wr.alloc (Obj.cells #[Value.int IntKind.i64 a.kind, Value.int IntKind.i64 (a.wait * k), Value.int IntKind.i64 a.call, Value.int IntKind.i64 a.err] 45)).heap[wr.heap.size]? = some (Obj.cells #[Value.int IntKind.i64 a.kind, Value.int IntKind.i64 (a.wait * k), Value.int IntKind.i64 a.call, Value.int IntKind.i64 a.err] 45 (0, 0)) := heap_alloc_new wr _
      clear m2 k0 k1 k2 k3
      generalize (wr.alloc (Obj.cells #[Value.int IntKind.i64 a.kind, Value.int IntKind.i64 (a.wait * k), Value.int IntKind.i64 a.call, Value.int IntKind.i64 a.err] 45)) = W2 at *
      have x2 := blk_cell HX
      have z2 := size_of_heap HX
      clear HX
      obtain ⟨i0, hi0, hz0, hz1, hz2⟩ := info_parts infoAct
      have hbase := HB2.out.size
      go_wp2_with (refine wpList_append_lies _ (by rfl) _ _ _ (by rfl) w.heap.size 45 i0 (.agg #[.int .i64 0, .int .i64 0, .int .i64 0, .int .i64 0]) 4 32 Try.underlying25 hi0 hz0 hz1 hz2 rfl (by omega) u5 i (actFlat ((l.take i).map (slow k))) (by rfl) (HO2.out.alloc _) ⟨W2.heap.size, 0, none⟩ 1 1 (actRow (slow k a)) (by rfl) rfl (World.news_of_block (heap_alloc_new W2 _)) (by intro u hu; simp [actRow] at hu; rcases hu with rfl | rfl | rfl | rfl <;> rfl) (by omega) (by unfold maxLen; omega) (by omega) (by simp; omega) (W2.heap.size + 1) (by simp) ?_; intro g cp wA hown hgrow hat hlt)
      go_roundg (l.length - (i + 1))
      case measure => omega
      case rel =>
        refine ⟨i + 1, rfl, hin, by first | rfl | simp, Lib.hid ⟨?_, ?_⟩⟩
        · have hb := (HB2.out.alloc hbase (Obj.cells #[Value.int IntKind.i64 a.kind, Value.int IntKind.i64 (a.wait * k), Value.int IntKind.i64 a.call, Value.int IntKind.i64 a.err] 45)).grown hgrow (by simp; omega) (fun k hk => (HO2.out.lt k hk).1)
          exact hb
        · have e : l.take (i + 1) = l.take i ++ [a] := by rw [List.take_add_one, LA.out]; rfl
          rw [e, List.map_append, List.map_cons, List.map_nil, actFlat_snoc]
          exact hown
    · have hiz : ¬ ((i : Int) < (l.length : Int)) := by omega
      have hieq : i = l.length := by omega
      have HO2 := HO.out
      rw [hieq, List.take_length] at HO2
      have HO3 := Lib.hid HO2
      clear HO2 hieq HO
      go_wp2_with fail
      go_ret
      exact ⟨u5, rfl, HO3.out, HB.out⟩

end Go.Proofs.Ytcjklacfoldaoaa
