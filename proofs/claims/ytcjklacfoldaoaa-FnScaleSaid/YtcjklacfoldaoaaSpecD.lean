/- Contracts of set, most, NewBreaker. Conditions: the breaker lies in its blocks, the times are in their ranges. -/
import Derived.Test.YtcjklacfoldaoaaSpecC
import Derived.Deep.AppendLies
import Derived.Deep.RegionLaw
namespace Go.Proofs.Ytcjklacfoldaoaa
open Go.RowKit
attribute [local go_sem ↓] Go.wp_at_zero Go.wp_at_succ

/-- The times of rules are in their ranges. -/
structure Rules.Mild (r : Rules) : Prop where
  i0 : -1000000000000000000 ≤ r.interval
  i1 : r.interval ≤ 1000000000000000000
  j0 : -1000000000000000000 ≤ r.timeout
  j1 : r.timeout ≤ 1000000000000000000
  m0 : 0 ≤ r.most
  m1 : r.most < 4294967296

def SEvo (b : Nat) (r : Rules) (w : World) (cr : Nat) (w' : World) (s : SB) : Prop := ∃ cr', SBat w' b cr' r s ∧ (cr' = cr ∨ w.heap.size ≤ cr') ∧ Mod [b, cr] w w'

theorem SBat.keep {S : List Nat} {w w' : World} {b cr : Nat} {r : Rules} {s : SB} (h : SBat w b cr r s) (m : Mod S w w') (h1 : b ∉ S) (h2 : cr ∉ S) : SBat w' b cr r s := by
  obtain ⟨cv, hv, ho, hr⟩ := h.at_
  refine ⟨⟨cv, m.heap hv h1, owns_keep ho ?_, hr⟩, h.crb, Nat.lt_of_lt_of_le h.crlt m.size⟩
  intro g hg
  have hlt := (ho.lt g hg).2
  rcases hr with e | e
  · rw [e] at hg; cases hg
  · rw [e] at hg; simp at hg; subst hg; exact m.block _ hlt h2
/-- Block b alone has been written: another breaker with the same changes. -/
theorem SBat.one {w w' : World} {b cr : Nat} {r : Rules} {s s' : SB} {cv : Value} (h : SBat w b cr r s) (ho : w.ownsRow 0 34 2 cv s.chs.length (chFlat s.chs)) (hr : cv.ownBlock = none ∨ cv.ownBlock = some cr) (h' : SBcv w' b r s' cv) (e : s'.chs = s.chs) (m : Mod [b] w w') : SBat w' b cr r s' := by
  refine ⟨⟨cv, h', ?_, hr⟩, h.crb, Nat.lt_of_lt_of_le h.crlt m.size⟩
  rw [e]
  refine owns_keep ho ?_
  intro g hg
  have hlt := (ho.lt g hg).2
  rcases hr with e | e
  · rw [e] at hg; cases hg
  · rw [e] at hg; simp at hg; subst hg; exact m.block _ hlt (by simpa using h.crb)

theorem SEvo.trans {b cr : Nat} {r : Rules} {w w1 w2 : World} {s1 s2 : SB} (a : SEvo b r w cr w1 s1) (k : ∀ cr1, SBat w1 b cr1 r s1 → SEvo b r w1 cr1 w2 s2) : SEvo b r w cr w2 s2 := by
  obtain ⟨cr1, h1, k1, m1⟩ := a
  obtain ⟨cr2, h2, k2, m2⟩ := k cr1 h1
  refine ⟨cr2, h2, ?_, m1.trans_new m2 ?_⟩
  · have := m1.size
    rcases k2 with rfl | k2
    · exact k1
    · exact .inr (by omega)
  · intro i hi
    simp at hi ⊢
    rcases hi with h | h
    · exact .inl (.inl h)
    · subst h; rcases k1 with e | e
      · exact .inl (.inr e)
      · exact .inr e

namespace SB
def set (r : Rules) (st now : Int) (s : SB) : SB := ({ s with chs := s.chs ++ [(s.state, st)], state := st } : SB).clear r now
end SB

theorem set_fin {b cr : Nat} {r : Rules} {s : SB} {st now : Int} {w w0 w1 w2 : World} {cv : Value} (h : SBat w b cr r s) (_ho : w.ownsRow 0 34 2 cv s.chs.length (chFlat s.chs)) (hr : cv.ownBlock = none ∨ cv.ownBlock = some cr)
    (hm0 : Mod [] w w0) {g cap : Nat} (hown : w1.ownsRow 0 34 2 (.slice (some ⟨g, 0, none⟩) (s.chs.length + 1) cap) (s.chs.length + 1) (chFlat s.chs ++ [.int .i64 s.state, .int .i64 st])) (hgrow : w0.grownBy w1 cv.ownBlock) (hat : cv.ownBlock = some g ∨ g = w0.heap.size) (hlt : g < w1.heap.size) (hb : b < w.heap.size)
    (h' : SBcv w2 b r (s.set r st now) (.slice (some ⟨g, 0, none⟩) (s.chs.length + 1) cap)) (m : Mod [b] w1 w2) : SEvo b r w cr w2 (s.set r st now) := by
  have hM : Mod [cr] w w1 := (hm0.mono (by simp)).trans (Mod.of_grown hgrow (by
    intro k hk; rcases hr with e | e
    · rw [e] at hk; cases hk
    · rw [e] at hk; simp at hk; simp [hk]))
  have hg : g = cr ∨ w.heap.size ≤ g := by
    have := hm0.size
    rcases hat with e | e
    · rcases hr with e2 | e2
      · rw [e2] at e; cases e
      · rw [e2] at e; simp at e; exact .inl e.symm
    · exact .inr (by omega)
  have hgb : g ≠ b := by
    have := h.crb
    rcases hg with e | e <;> omega
  refine ⟨g, ⟨⟨_, h', ?_, .inr rfl⟩, hgb, Nat.lt_of_lt_of_le hlt m.size⟩, hg, ?_⟩
  · have e : (s.set r st now).chs = s.chs ++ [(s.state, st)] := rfl
    rw [e, chFlat_snoc, List.length_append]
    refine owns_keep hown ?_
    intro k hk
    simp [Value.ownBlock] at hk
    subst hk
    exact m.block _ hlt (by simpa using hgb)
  · exact (hM.mono (by simp)).trans (m.mono (by simp))

set_option maxRecDepth 100000 in
set_option maxHeartbeats 2000000 in
theorem set_any (b cr : Nat) (r : Rules) (s : SB) (st now : Int) (w : World) (h : SBat w b cr r s) (mild : r.Mild) (hlen : s.chs.length ≤ 1000000) (s0 : 0 ≤ st) (s1 : st ≤ 2) (t0 : -3000000000000000000 ≤ now) (t1 : now ≤ 3000000000000000000) :
    Calls Try.prog 63 #[.pointer (some ⟨b, 0, none⟩), .int .i64 st, .int .i64 now] w fun e w' => e = .returned (.tuple #[]) ∧ SEvo b r w cr w' (s.set r st now) := by
  obtain ⟨cv, hv, ho, hr⟩ := h.at_
  obtain ⟨hc, hf⟩ := hv.cells
  have z := size_of_heap hv
  have c11 := hc 11
  have c21 := hc 21
  simp at c11 c21
  obtain ⟨i0, hi, hz0, hz1, hz2⟩ := info_parts infoChange
  have nb : cv.ownBlock ≠ some b := by rcases hr with e | e <;> rw [e] <;> simp; exact h.crb
  have NB := Lib.hid nb
  have HS := Lib.hid h
  have HV := Lib.hid hv
  have HO := Lib.hid ho
  have HR := Lib.hid hr
  clear h hv ho hr hc nb hf
  go_enter Try.func63, Try.ntmps63
  go_wp2_with fail
  go_region_law
    ((first | (refine step_append_lies _ (by rfl) _ _ _ (by rfl) 0 34 i0 (.agg #[.int .i64 0, .int .i64 0]) 2 16 Try.underlying30 hi hz0 hz1 hz2 rfl (by omega) cv s.chs.length (chFlat s.chs) (by rfl) (HO.out.alloc _) ⟨w.heap.size, 0, none⟩ 1 1 [.int .i64 s.state, .int .i64 st] (by rfl) rfl (World.news_of_block (heap_drew (heap_alloc_new w _))) (by intro u hu; simp at hu; rcases hu with rfl | rfl <;> rfl) (by omega) (by unfold maxLen; omega) (by omega) (by omega) (w.heap.size + 1) (by simp) ?_; intro g cap w1 hown1 hgrow hat hlt; have V1 := Lib.hid (((hgrow.block b (by simp; omega) (Ne.symm NB.out)).trans (heap_drew (heap_alloc_lt HV.out))) : w1.heap[b]? = _); have p1 := blk_cell V1.out 21; have q1 := blk_free V1.out; have p2 := blk_cell V1.out 11; simp [sbArr] at p1 p2)))
  all_goals (
    go_wp2_with fail
    refine (clear_any b r ({ s with chs := s.chs ++ [(s.state, st)], state := st } : SB) (.slice (some ⟨g, 0, none⟩) (s.chs.length + 1) cap) now _ ((heap_set_same (heap_set_same V1.out)).trans (by simp [sbArr])) s0 s1 t0 t1 mild.i0 mild.i1 mild.j0 mild.j1).mono ?_
    rintro e w6 ⟨rfl, hv6, hm6⟩
    have V6 := Lib.hid hv6
    have M6 := Lib.hid ((((Mod.refl [b] w1).setCell ⟨b, 21, none⟩ (.slice (some ⟨g, 0, none⟩) (s.chs.length + 1) cap) (by simp)).setCell ⟨b, 11, none⟩ (.int .i64 st) (by simp)).trans hm6)
    clear hv6 hm6
    go_wp2_with fail
    go_end0
    exact ⟨rfl, set_fin HS.out HO.out HR.out ((Mod.refl [] w).alloc _).drew hown1 hgrow (by simpa using hat) hlt z V6.out M6.out⟩)

/-- How many requests may go. -/
def mostS (r : Rules) : Int := if r.most < 1 then 1 else r.most
set_option maxHeartbeats 400000 in
theorem most_any (b : Nat) (r : Rules) (s : SB) (cv : Value) (w : World) (h : SBcv w b r s cv) (mild : r.Mild) :
    Calls Try.prog 64 #[.pointer (some ⟨b, 0, none⟩)] w fun e w' => e = .returned (.int .u32 (mostS r)) ∧ w = w' := by
  have c1 := h.cells.1 1
  simp at c1
  have m0 := mild.m0
  have m1 := mild.m1
  clear h mild
  unfold mostS
  by_cases hm : r.most < 1
  · rw [if_pos hm]
    go_enter Try.func64, Try.ntmps64
    go_wp2
    go_ret
    exact ⟨rfl, rfl⟩
  · rw [if_neg hm]
    go_enter Try.func64, Try.ntmps64
    go_wp2
    go_ret
    exact ⟨rfl, rfl⟩

end Go.Proofs.Ytcjklacfoldaoaa
