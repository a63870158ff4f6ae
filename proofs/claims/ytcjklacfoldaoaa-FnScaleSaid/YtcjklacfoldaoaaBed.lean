/- The bed of a breaker: its clock and the changes that it tells; contracts of the two functions that read and write it. Conditions: the bed lies in its blocks, the clock is in its range. -/
import Derived.Test.YtcjklacfoldaoaaFun
import Derived.Deep.AppendLies
import Derived.Deep.RegionLaw
namespace Go.Proofs.Ytcjklacfoldaoaa
open Go.RowKit
attribute [local go_sem ↓] Go.wp_at_zero Go.wp_at_succ

def chFlat (l : List (Int × Int)) : List Value := l.flatMap (fun c => [.int .i64 c.1, .int .i64 c.2])
theorem chFlat_snoc (l : List (Int × Int)) (a b : Int) : chFlat (l ++ [(a, b)]) = chFlat l ++ [.int .i64 a, .int .i64 b] := by simp [chFlat]

theorem owns_keep {w w' : World} {base : Nat} {e : TypeId} {size : Nat} {v : Value} {n : Nat} {xs : List Value} (h : w.ownsRow base e size v n xs) (hk : ∀ g, v.ownBlock = some g → w'.heap[g]? = w.heap[g]?) : w'.ownsRow base e size v n xs := by
  refine ⟨h.1, ?_⟩
  rcases h.2 with hn | ⟨g, cap, cur, rfl, hb, hgg, rest⟩
  · exact .inl hn
  · exact .inr ⟨g, cap, cur, rfl, hb, (hk g rfl).trans hgg, rest⟩

/-- The bed lies in its blocks; the changes' row is block cr, if there is one. -/
structure BedAt (w : World) (L : Loc) (cr : Nat) (now : Int) (chs : List (Int × Int)) : Prop where
  bp : w.heap[L.bp]? = some (.cells #[.pointer (some ⟨L.bd, 0, none⟩)] 72 (0, 0))
  bd : ∃ v, w.heap[L.bd]? = some (.cells #[.int .i64 now, v] 74 (0, 0)) ∧ w.ownsRow 0 34 2 v chs.length (chFlat chs) ∧ (v.ownBlock = none ∨ v.ownBlock = some cr)

theorem BedAt.keep {S : List Nat} {w w' : World} {L : Loc} {cr : Nat} {now : Int} {chs : List (Int × Int)} (h : BedAt w L cr now chs) (hm : Mod S w w') (h1 : L.bp ∉ S) (h2 : L.bd ∉ S) (h3 : cr ∉ S) : BedAt w' L cr now chs := by
  obtain ⟨v, hv, ho, hr⟩ := h.bd
  refine ⟨hm.heap h.bp h1, v, hm.heap hv h2, owns_keep ho ?_, hr⟩
  intro g hg
  have hlt := (ho.lt g hg).2
  rcases hr with hr | hr
  · rw [hr] at hg; cases hg
  · rw [hr] at hg; simp at hg; subst hg
    exact hm.block _ hlt h3

theorem BedAt.drew {w : World} {L : Loc} {cr : Nat} {now : Int} {chs : List (Int × Int)} (h : BedAt w L cr now chs) : BedAt w.drew L cr now chs := ⟨h.bp, h.bd⟩

set_option maxHeartbeats 400000 in
theorem now_any (L : Loc) (cr : Nat) (now : Int) (chs : List (Int × Int)) (w : World) (h : BedAt w L cr now chs) (h0 : -3000000000000000000 ≤ now) (h1 : now ≤ 3000000000000000000) :
    Calls Try.prog 52 #[.pointer (some ⟨L.bp, 0, none⟩)] w fun e w' => e = .returned (.agg #[.int .u64 (NS now), .int .i64 (SEC now), .pointer none]) ∧ Below w.heap.size w w' := by
  obtain ⟨v, hv, _, _⟩ := h.bd
  have c0 := blk_cell h.bp 0
  have d0 := blk_cell hv 0
  have z0 := size_of_heap h.bp
  have z1 := size_of_heap hv
  simp at c0 d0
  clear h hv
  go_enter Try.func52, Try.ntmps52
  go_wp2_with fail
  refine (unix_any now _ (by omega) (by omega)).mono ?_
  rintro e w' ⟨rfl, hb⟩
  obtain ⟨c1, f1, hz, _⟩ := kept hb (heap_alloc_new w _)
  go_wp2_with fail
  refine bodyPost_ret (v := .agg #[.int .u64 (NS now), .int .i64 (SEC now), .pointer none]) (by simp [results, Try.results52, go_sem, c1]) rfl ⟨rfl, ?_⟩
  exact (((((Below.refl _ _).alloc (Nat.le_refl _) _).trans (hb.mono (by simp))).setCell (Nat.le_refl _) _).setCell (Nat.le_refl _) _).setCell (Nat.le_refl _) _

theorem infoChange : (Try.prog.info? 34).map (fun i => (i.zero, i.size, i.bytes)) = some (some (.agg #[.int .i64 0, .int .i64 0]), 2, 16) := by kernel_rfl

theorem Mod.of_grown {S : List Nat} {w w' : World} {row : Option Nat} (h : w.grownBy w' row) (hr : ∀ k, row = some k → k ∈ S) : Mod S w w' :=
  ⟨h.os, h.tape, h.output, h.size, fun k hk hS => h.block k hk (fun e => hS (hr k e.symm))⟩

theorem change_fin {L : Loc} {cr : Nat} {now : Int} {chs : List (Int × Int)} {a b : Int} {w : World} {v : Value} (h : BedAt w L cr now chs)
    (hv : w.heap[L.bd]? = some (.cells #[.int .i64 now, v] 74 (0, 0))) (_ho : w.ownsRow 0 34 2 v chs.length (chFlat chs)) (hrow : v.ownBlock = none ∨ v.ownBlock = some cr) (hb1 : cr ≠ L.bp) (hb2 : cr ≠ L.bd) (hne : L.bp ≠ L.bd)
    {g cap : Nat} {w1 : World} {o : Obj} (hown1 : w1.ownsRow 0 34 2 (.slice (some ⟨g, 0, none⟩) (chs.length + 1) cap) (chs.length + 1) (chFlat chs ++ [.int .i64 a, .int .i64 b]))
    (hgrow : (w.alloc o).drew.grownBy w1 v.ownBlock) (hat : v.ownBlock = some g ∨ g = w.heap.size + 1) (hlt : g < w1.heap.size) :
    (∃ cr', BedAt (w1.setCell ⟨L.bd, 1, none⟩ (.slice (some ⟨g, 0, none⟩) (chs.length + 1) cap)) L cr' now (chs ++ [(a, b)]) ∧ (cr' = cr ∨ w.heap.size ≤ cr') ∧ cr' < (w1.setCell ⟨L.bd, 1, none⟩ (.slice (some ⟨g, 0, none⟩) (chs.length + 1) cap)).heap.size) ∧
      Mod [L.bd, cr] w (w1.setCell ⟨L.bd, 1, none⟩ (.slice (some ⟨g, 0, none⟩) (chs.length + 1) cap)) := by
  have z1 := size_of_heap hv
  have z0 := size_of_heap h.bp
  have hM : Mod [cr] w w1 := ((Mod.refl [cr] w).alloc o).drew.trans (Mod.of_grown hgrow (by
    intro k hk; rcases hrow with e | e
    · rw [e] at hk; cases hk
    · rw [e] at hk; simp at hk; simp [hk]))
  have hg : g = cr ∨ w.heap.size ≤ g := by
    rcases hat with e | e
    · rcases hrow with e2 | e2
      · rw [e2] at e; cases e
      · rw [e2] at e; simp at e; exact .inl e.symm
    · exact .inr (by omega)
  have hgd : g ≠ L.bd := by rcases hg with e | e <;> omega
  refine ⟨⟨g, ⟨heap_set_other (hM.heap h.bp (by simpa using Ne.symm hb1)) hne, _, (heap_set_same (hM.heap hv (by simpa using Ne.symm hb2))).trans (by simp; rfl), ?_, .inr rfl⟩, hg, by simpa using hlt⟩, ?_⟩
  · rw [chFlat_snoc, List.length_append]
    refine owns_keep hown1 ?_
    intro k hk
    simp [Value.ownBlock] at hk
    subst hk
    exact Below.heap_setCell _ _ _ _ hgd
  · exact (hM.mono (by simp)).setCell _ _ (by simp)

set_option maxHeartbeats 1000000 in
theorem change_any (L : Loc) (cr : Nat) (now : Int) (chs : List (Int × Int)) (a b : Int) (nm : ByteArray) (w : World) (h : BedAt w L cr now chs) (hlen : chs.length ≤ 1000000) (hne : L.bp ≠ L.bd) (hb1 : cr ≠ L.bp) (hb2 : cr ≠ L.bd) :
    Calls Try.prog 55 #[.string nm, .int .i64 a, .int .i64 b, .pointer (some ⟨L.bp, 0, none⟩)] w fun e w' => e = .returned (.tuple #[]) ∧ (∃ cr', BedAt w' L cr' now (chs ++ [(a, b)]) ∧ (cr' = cr ∨ w.heap.size ≤ cr') ∧ cr' < w'.heap.size) ∧ Mod [L.bd, cr] w w' := by
  obtain ⟨v, hv, hown, hrow⟩ := h.bd
  have c0 := blk_cell h.bp 0
  have d1 := blk_cell hv 1
  have f1 := blk_free hv 1
  have z0 := size_of_heap h.bp
  have z1 := size_of_heap hv
  simp at c0 d1
  obtain ⟨i0, hi, hz0, hz1, hz2⟩ := info_parts infoChange
  have HB := Lib.hid h
  have HV := Lib.hid hv
  have HO := Lib.hid hown
  have HR := Lib.hid hrow
  have nb : v.ownBlock ≠ some L.bp := by rcases hrow with e | e <;> rw [e] <;> simp; omega
  have nd : v.ownBlock ≠ some L.bd := by rcases hrow with e | e <;> rw [e] <;> simp; omega
  have NB := Lib.hid nb
  have ND := Lib.hid nd
  clear h hv hown hrow nb nd
  have hne' : L.bd ≠ L.bp := hne.symm
  go_enter Try.func55, Try.ntmps55
  go_wp2_with fail
  go_region_law
    ((first | (refine step_append_lies _ (by rfl) _ _ _ (by rfl) 0 34 i0 (.agg #[.int .i64 0, .int .i64 0]) 2 16 Try.underlying30 hi hz0 hz1 hz2 rfl (by omega) v chs.length (chFlat chs) (by rfl) (HO.out.alloc _) ⟨w.heap.size, 0, none⟩ 1 1 [.int .i64 a, .int .i64 b] (by rfl) rfl (World.news_of_block (heap_drew (heap_alloc_new w _))) (by intro u hu; simp at hu; rcases hu with rfl | rfl <;> rfl) (by omega) (by unfold maxLen; omega) (by omega) (by omega) (w.heap.size + 1) (by simp) ?_; intro g cap w1 hown1 hgrow hat hlt; have p0 := (hgrow.cell_far ⟨L.bp, 0, none⟩ (by simp; omega) (Ne.symm NB.out)).trans ((World.cell?_alloc_lt w _ ⟨L.bp, 0, none⟩ z0).trans c0); have p1 := (hgrow.cell_far ⟨L.bd, 1, none⟩ (by simp; omega) (Ne.symm ND.out)).trans ((World.cell?_alloc_lt w _ ⟨L.bd, 1, none⟩ z1).trans d1); have q1 := (hgrow.frozen_far ⟨L.bd, 1, none⟩ (by simp; omega) (Ne.symm ND.out)).trans ((World.frozen?_alloc_old w _ ⟨L.bd, 1, none⟩ (Nat.ne_of_lt z1)).trans f1))))
  all_goals (go_end0; exact ⟨rfl, change_fin HB.out HV.out HO.out HR.out hb1 hb2 hne hown1 hgrow hat hlt⟩)

end Go.Proofs.Ytcjklacfoldaoaa
