/- Small laws of the rounds of PlayTwoStep. No condition. -/
import Derived.Test.YtcjklacfoldaoaaPlayM
namespace Go.Proofs.Ytcjklacfoldaoaa
open Go.RowKit

theorem Evo.tick {w : World} {L : Loc} {cr : Nat} {r : Rules} {c : CB} {now : Int} {chs : List (Int × Int)} (h : Sys w L cr r c now chs) {now' : Int} (n0 : -3000000000000000000 ≤ now') (n1 : now' ≤ 3000000000000000000) : Evo L r w cr (w.setCell ⟨L.bd, 0, none⟩ (.int .i64 now')) c now' chs := by
  obtain ⟨v, hv, ho, hr⟩ := h.bed.bd
  refine h.withBed ⟨cr, ⟨heap_set_other h.bed.bp h.lok.bd_bp.symm, v, (heap_set_same hv).trans (by simp), owns_keep ho ?_, hr⟩, .inl rfl, by simpa using h.crlt⟩ ((Mod.refl _ w).setCell _ _ (by simp)) n0 n1
  intro g hg
  refine Below.heap_setCell _ _ _ _ ?_
  rcases hr with e | e
  · rw [e] at hg; cases hg
  · rw [e] at hg; simp at hg; subst hg; exact h.free.bd

theorem St.go {w0 wx wy : World} {L : Loc} {tw cr : Nat} {r : Rules} {p : Play} {dv ov : Value} (h : St w0 L tw r wx p cr dv ov) {c' : CB} {now' : Int} {chs' : List (Int × Int)} {cr' : Nat} (s : Sys wy L cr' r c' now' chs') (k : cr' = cr ∨ wx.heap.size ≤ cr') (m : Mod [L.cb, L.rc, L.bk, L.bd, cr] wx wy) :
    St w0 L tw r wy { p with c := c', now := now', chs := chs' } cr' dv ov := by
  obtain ⟨vals, hd, ho⟩ := h.dn
  refine ⟨s, m.heap h.two h.tws, h.tws.next (size_of_heap h.two) k, ⟨vals, fun i v d hv hp => (hd i v d hv hp).next k m, owns_keep ho fun g hg => m.block g (ho.lt g hg).2 (h.dns g hg)⟩, fun g hg => (h.dns g hg).next (ho.lt g hg).2 k, owns_keep h.ot fun g hg => m.block g (h.ot.lt g hg).2 (h.ots g hg), fun g hg => (h.ots g hg).next (h.ot.lt g hg).2 k, ?_, h.bel.trans (m.below_of h.bel.size h.old)⟩
  intro i hi
  have h1 := h.old
  simp at hi h1 ⊢
  rcases hi with e | e | e | e | e
  · omega
  · omega
  · omega
  · omega
  · have := h.bel.size
    rcases k with k | k <;> omega

theorem Play.sw_out (r : Rules) (p : Play) (a : Act) : (p.sw r a).out = p.out := by
  unfold Play.sw; split
  · rfl
  · split <;> rfl
theorem Play.act_eq (r : Rules) (g0 : Int) (p : Play) (a : Act) : { p.sw r a with out := (p.sw r a).out ++ [⟨p.code a, p.state a, (p.sw r a).c.rc.tot, w64u ((p.sw r a).c.gen - g0)⟩] } = p.act r g0 a := by
  rw [Play.sw_out]; rfl
theorem addr_add0 (g k : Nat) : (⟨g, 0, none⟩ : Addr).add k = ⟨g, k, none⟩ := by
  unfold Addr.add
  by_cases h : k = 0
  · subst h; simp
  · simp [h]
theorem own_ne {w : World} {base : Nat} {e T : TypeId} {size n k : Nat} {v : Value} {xs : List Value} {cs : Array Value} {fr : Nat × Nat} (h : w.ownsRow base e size v n xs) (hk : w.heap[k]? = some (.cells cs T fr)) (hT : T ≠ e) : some k ≠ v.ownBlock := by
  intro hv
  obtain ⟨_, cs2, fr2, e2⟩ := own_block h hv.symm
  rw [hk] at e2; simp at e2; exact hT e2.2.1
theorem beforeCode_or (c : CB) (h : c.beforeCode ≠ 0) : c.beforeCode = 1 ∨ c.beforeCode = 2 := by
  unfold CB.beforeCode at *
  split
  · exact .inl rfl
  · split
    · exact .inr rfl
    · rename_i h1 h2; rw [if_neg h1, if_neg h2] at h; exact absurd rfl h

theorem infoDone : (Try.prog.info? 89).map (fun i => (i.zero, i.size, i.bytes)) = some (some .nilFunc, 1, 8) := by kernel_rfl
theorem infoAns : (Try.prog.info? 39).map (fun i => (i.zero, i.size, i.bytes)) = some (some (.agg #[.int .i64 0, .int .i64 0, .int .u32 0, .int .u32 0, .int .u32 0, .int .u32 0, .int .u32 0, .int .u32 0, .int .u64 0]), 9, 48) := by kernel_rfl
theorem eql_err_nil (w : World) : (binOp .eql 91 .nilIface .nilIface).run Try.prog w = .ok (.bool true) w := by kernel_rfl
theorem eql_err_data (s : ByteArray) (w : World) : (binOp .eql 91 (.iface 127 (.string s)) .nilIface).run Try.prog w = .ok (.bool false) w := by kernel_rfl

theorem owns_base {w : World} {B base : Nat} {e : TypeId} {size : Nat} {v : Value} {n : Nat} {xs : List Value} (h : w.ownsRow base e size v n xs) (hb : ∀ g, v.ownBlock = some g → B ≤ g) : w.ownsRow B e size v n xs := by
  refine ⟨h.1, ?_⟩
  rcases h.2 with hn | ⟨g, cap, cur, rfl, _, rest⟩
  · exact .inl hn
  · exact .inr ⟨g, cap, cur, rfl, hb g rfl, rest⟩

theorem Play.run_drop (r : Rules) (g0 : Int) (p : Play) {l : List Act} {i : Nat} {a : Act} (h : l[i]? = some a) : Play.run r g0 p (l.drop i) = Play.run r g0 (p.act r g0 a) (l.drop (i + 1)) := by
  have hi : i < l.length := by
    rcases Nat.lt_or_ge i l.length with h' | h'
    · exact h'
    · rw [List.getElem?_eq_none h'] at h; cases h
  rw [List.drop_eq_getElem_cons hi]
  rw [List.getElem?_eq_getElem hi] at h
  simp at h
  rw [h]; rfl
theorem Play.fine_drop (r : Rules) (g0 : Int) (p : Play) {l : List Act} {i : Nat} {a : Act} (h : l[i]? = some a) (hf : Play.Fine r g0 p (l.drop i)) : p.Can a ∧ Play.Fine r g0 (p.act r g0 a) (l.drop (i + 1)) := by
  have hi : i < l.length := by
    rcases Nat.lt_or_ge i l.length with h' | h'
    · exact h'
    · rw [List.getElem?_eq_none h'] at h; cases h
  rw [List.drop_eq_getElem_cons hi] at hf
  rw [List.getElem?_eq_getElem hi] at h
  simp at h
  rw [h] at hf; exact hf

theorem CB.lookTold_len (c : CB) (now : Int) : (c.lookTold now).length ≤ 1 := by unfold CB.lookTold; split <;> simp
theorem CB.afterTold_len (c : CB) (r : Rules) (prev age n now : Int) : (c.afterTold r prev age n now).length ≤ 2 := by
  unfold CB.afterTold
  have h1 := c.lookTold_len now
  have h2 : (if (c.look now).gen ≠ prev then [] else if outB r n then [] else if goodB r n then (c.look now).onSuccTold age else (c.look now).onFailTold r age : List (Int × Int)).length ≤ 1 := by
    split
    · simp
    · split
      · simp
      · split
        · unfold CB.onSuccTold; split <;> simp
        · unfold CB.onFailTold; repeat' split
          all_goals simp
  rw [List.length_append]; omega
theorem Play.act_sizes (r : Rules) (g0 : Int) (p : Play) (a : Act) : (p.act r g0 a).chs.length ≤ p.chs.length + 2 ∧ (p.act r g0 a).dones.length ≤ p.dones.length + 1 ∧ (p.act r g0 a).out.length = p.out.length + 1 := by
  have h1 := p.c.lookTold_len (p.now + a.wait)
  have h2 := fun x y z => p.c.afterTold_len r x y z (p.now + a.wait)
  unfold Play.act Play.sw
  split
  · simp; omega
  · split
    · refine ⟨by simp; omega, ?_, by simp⟩
      dsimp only; split <;> simp
    · refine ⟨?_, by simp, by simp⟩
      simp only [List.length_append]
      have := h2 (p.dones.getD a.call.toNat (0, 0)).1 (p.dones.getD a.call.toNat (0, 0)).2 a.err
      omega

end Go.Proofs.Ytcjklacfoldaoaa
