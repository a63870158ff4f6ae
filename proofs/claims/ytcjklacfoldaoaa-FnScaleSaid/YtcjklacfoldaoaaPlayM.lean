/- PlayTwoStep as plain data, and what lies where in its rounds. No condition. -/
import Derived.Test.YtcjklacfoldaoaaNewD
namespace Go.Proofs.Ytcjklacfoldaoaa
open Go.RowKit

structure Act where
  kind : Int
  wait : Int
  call : Int
  err : Int
structure Ans where
  code : Int
  state : Int
  cnt : Cnt
  cleared : Int
structure Play where
  c : CB
  now : Int
  chs : List (Int × Int)
  dones : List (Int × Int)
  out : List Ans

def actRow (a : Act) : List Value := [.int .i64 a.kind, .int .i64 a.wait, .int .i64 a.call, .int .i64 a.err]
def ansRow (x : Ans) : List Value := [.int .i64 x.code, .int .i64 x.state, .int .u32 x.cnt.r, .int .u32 x.cnt.s, .int .u32 x.cnt.f, .int .u32 x.cnt.x, .int .u32 x.cnt.g, .int .u32 x.cnt.h, .int .u64 x.cleared]
def ansFlat (l : List Ans) : List Value := l.flatMap ansRow
theorem ansFlat_snoc (l : List Ans) (x : Ans) : ansFlat (l ++ [x]) = ansFlat l ++ ansRow x := by simp [ansFlat]

/-- A row of acts can be read. -/
def ActsAt (w : World) (v : Value) (l : List Act) : Prop :=
  ∃ p cap, v = .slice p l.length cap ∧ ∀ (i : Nat) (x : Act), l[i]? = some x → ∃ b o : Nat, p = some ⟨b, o, none⟩ ∧ b < w.heap.size ∧ ∀ (j : Nat) (u : Value), (actRow x)[j]? = some u → w.cell? ⟨b, o + i * 4 + j, none⟩ = some u

def Play.start (r : Rules) (now : Int) : Play := ⟨(freshCB r).newGen now, now, [], [], []⟩

namespace Play
/-- A round, all but its answer. -/
def sw (r : Rules) (p : Play) (a : Act) : Play :=
  if a.kind = 0 then { p with now := p.now + a.wait, c := p.c.look (p.now + a.wait), chs := p.chs ++ p.c.lookTold (p.now + a.wait) }
  else if a.kind = 1 then { p with now := p.now + a.wait, c := (p.c.look (p.now + a.wait)).before1, chs := p.chs ++ p.c.lookTold (p.now + a.wait), dones := if (p.c.look (p.now + a.wait)).beforeCode = 0 then p.dones ++ [((p.c.look (p.now + a.wait)).gen, (p.c.look (p.now + a.wait)).rc.age)] else p.dones }
  else { p with now := p.now + a.wait, c := p.c.after r (p.dones.getD a.call.toNat (0, 0)).1 (p.dones.getD a.call.toNat (0, 0)).2 a.err (p.now + a.wait), chs := p.chs ++ p.c.afterTold r (p.dones.getD a.call.toNat (0, 0)).1 (p.dones.getD a.call.toNat (0, 0)).2 a.err (p.now + a.wait) }
def code (p : Play) (a : Act) : Int := if a.kind = 1 then (p.c.look (p.now + a.wait)).beforeCode else 0
def state (p : Play) (a : Act) : Int := if a.kind = 0 then (p.c.look (p.now + a.wait)).state else -1
def act (r : Rules) (g0 : Int) (p : Play) (a : Act) : Play := { p.sw r a with out := p.out ++ [⟨p.code a, p.state a, (p.sw r a).c.rc.tot, w64u ((p.sw r a).c.gen - g0)⟩] }
def run (r : Rules) (g0 : Int) (p : Play) (l : List Act) : Play := l.foldl (act r g0) p
/-- A round is within the bounds. -/
structure Can (p : Play) (a : Act) : Prop where
  kind : a.kind = 0 ∨ a.kind = 1 ∨ a.kind = 2
  wait0 : 0 ≤ a.wait
  now0 : -3000000000000000000 ≤ p.now
  now1 : p.now + a.wait ≤ 3000000000000000000
  call : a.kind = 2 → 0 ≤ a.call ∧ a.call < p.dones.length
  err0 : 0 ≤ a.err
  err1 : a.err ≤ 6
/-- All rounds are. -/
def Fine (r : Rules) (g0 : Int) : Play → List Act → Prop
  | _, [] => True
  | p, a :: l => p.Can a ∧ Fine r g0 (p.act r g0 a) l
/-- One bucket, and few things. -/
structure One (p : Play) : Prop where
  len : p.c.rc.bs.length = 1
  age : p.c.rc.age = 0
  ages : ∀ d ∈ p.dones, d.2 = 0
end Play

namespace CB
/-- A breaker whose window does not roll. -/
def One (c : CB) : Prop := c.rc.bs.length = 1 ∧ c.rc.age = 0
theorem One.newGen {c : CB} (h : c.One) (now : Int) : (c.newGen now).One := ⟨by simpa [CB.newGen, RC.clear] using h.1, by simp [CB.newGen, RC.clear]⟩
theorem One.state {c : CB} (h : c.One) (s : Int) : ({ c with state := s } : CB).One := h
theorem One.put {c : CB} (h : c.One) (k : Cnt → Cnt) (age : Int) : (c.put k age).One := by
  unfold CB.put RC.on
  constructor
  · dsimp only; split
    · exact h.1
    · split
      · simpa using h.1
      · exact h.1
  · dsimp only; split
    · exact h.2
    · split
      · exact h.2
      · exact h.2
theorem One.look {c : CB} (h : c.One) (now : Int) : (c.look now).One := by
  unfold CB.look
  split
  · split
    · exact h.newGen now
    · rw [if_neg (by have := h.1; omega)]; exact h
  · split
    · exact (h.state 1).newGen now
    · exact h
theorem One.before1 {c : CB} (h : c.One) : c.before1.One := by
  unfold CB.before1
  split
  · exact h
  · split
    · exact h
    · exact ⟨by simpa [RC.req] using h.1, by simpa [RC.req] using h.2⟩
theorem One.onSucc {c : CB} (h : c.One) (age now : Int) : (c.onSucc age now).One := by
  unfold CB.onSucc
  split
  · exact h.put _ _
  · split
    · split
      · exact ((h.put _ _).state 0).newGen now
      · exact h.put _ _
    · exact h
theorem One.onFail {c : CB} (h : c.One) (r : Rules) (age now : Int) : (c.onFail r age now).One := by
  unfold CB.onFail
  repeat' split
  all_goals first | exact h.put _ _ | exact h | exact ((h.put _ _).state _).newGen now | exact (h.state _).newGen now
theorem One.after {c : CB} (h : c.One) (r : Rules) (prev age n now : Int) : (c.after r prev age n now).One := by
  unfold CB.after
  split
  · exact h.look now
  · split
    · exact (h.look now).put _ _
    · split
      · exact (h.look now).onSucc _ _
      · exact (h.look now).onFail _ _ _
theorem One.win {c : CB} (h : c.One) (now : Int) : Win c now := .inl (by have := h.1; omega)
theorem One.hit {c : CB} (h : c.One) (now : Int) : Hit (c.look now) 0 := ⟨by omega, by rw [(h.look now).2]; omega, by rw [(h.look now).2, (h.look now).1]; decide⟩
end CB

theorem Play.One.act {p : Play} (h : p.One) (r : Rules) (g0 : Int) (a : Act) : (p.act r g0 a).One := by
  have hc : p.c.One := ⟨h.len, h.age⟩
  unfold Play.act Play.sw
  split
  · exact ⟨(hc.look _).1, (hc.look _).2, h.ages⟩
  · split
    · refine ⟨(hc.look _).before1.1, (hc.look _).before1.2, ?_⟩
      dsimp only
      split
      · intro d hd
        simp at hd
        rcases hd with hd | rfl
        · exact h.ages d hd
        · exact (hc.look _).2
      · exact h.ages
    · exact ⟨(hc.after r _ _ _ _).1, (hc.after r _ _ _ _).2, h.ages⟩

/-- Where everything lies ahead of a round. -/
structure St (w0 : World) (L : Loc) (tw : Nat) (r : Rules) (wx : World) (p : Play) (cr : Nat) (dv ov : Value) : Prop where
  sys : Sys wx L cr r p.c p.now p.chs
  two : TwoAt wx L tw
  tws : Sep L cr tw
  dn : ∃ vals : List Value, (∀ (i : Nat) (v : Value) (d : Int × Int), vals[i]? = some v → p.dones[i]? = some d → DoneAt wx L tw cr v d.1 d.2) ∧ wx.ownsRow w0.heap.size 89 1 dv p.dones.length vals
  dns : ∀ g, dv.ownBlock = some g → Sep L cr g
  ot : wx.ownsRow w0.heap.size 39 9 ov p.out.length (ansFlat p.out)
  ots : ∀ g, ov.ownBlock = some g → Sep L cr g
  old : ∀ i ∈ [L.cb, L.rc, L.bk, L.bd, cr], w0.heap.size ≤ i
  bel : Below w0.heap.size w0 wx

section
variable {w0 wx wy : World} {L : Loc} {tw cr : Nat} {r : Rules} {p : Play} {dv ov : Value}

/-- The breaker has gone on. -/
theorem St.evo (h : St w0 L tw r wx p cr dv ov) {c' : CB} {now' : Int} {chs' : List (Int × Int)} (e : Evo L r wx cr wy c' now' chs') :
    ∃ cr', St w0 L tw r wy { p with c := c', now := now', chs := chs' } cr' dv ov ∧ (cr' = cr ∨ wx.heap.size ≤ cr') ∧ Mod [L.cb, L.rc, L.bk, L.bd, cr] wx wy := by
  obtain ⟨cr', s, k, m⟩ := e
  obtain ⟨vals, hd, ho⟩ := h.dn
  refine ⟨cr', ⟨s, m.heap h.two h.tws, h.tws.next (size_of_heap h.two) k, ⟨vals, fun i v d hv hp => (hd i v d hv hp).next k m, owns_keep ho fun g hg => m.block g (ho.lt g hg).2 (h.dns g hg)⟩, fun g hg => (h.dns g hg).next (ho.lt g hg).2 k, owns_keep h.ot fun g hg => m.block g (h.ot.lt g hg).2 (h.ots g hg), fun g hg => (h.ots g hg).next (h.ot.lt g hg).2 k, ?_, h.bel.trans (m.below_of h.bel.size h.old)⟩, k, m⟩
  intro i hi
  have h1 := h.old
  simp at hi h1 ⊢
  rcases hi with e | e | e | e | e
  · omega
  · omega
  · omega
  · omega
  · have := h.bel.size
    rcases k with k | k <;> omega
theorem St.below (h : St w0 L tw r wx p cr dv ov) (b : Below wx.heap.size wx wy) : St w0 L tw r wy p cr dv ov := by
  obtain ⟨vals, hd, ho⟩ := h.dn
  have m : Mod [L.cb, L.rc, L.bk, L.bd, cr] wx wy := Mod.of_below b
  exact ⟨h.sys.below b, m.heap h.two h.tws, h.tws, ⟨vals, fun i v d hv hp => (hd i v d hv hp).next (.inl rfl) m, owns_keep ho fun g hg => m.block g (ho.lt g hg).2 (h.dns g hg)⟩, h.dns, owns_keep h.ot fun g hg => m.block g (h.ot.lt g hg).2 (h.ots g hg), h.ots, h.old, h.bel.trans (b.mono h.bel.size)⟩
theorem St.alloc (h : St w0 L tw r wx p cr dv ov) (o : Obj) : St w0 L tw r (wx.alloc o) p cr dv ov := h.below ((Below.refl _ _).alloc (Nat.le_refl _) _)
theorem St.drew (h : St w0 L tw r wx p cr dv ov) : St w0 L tw r wx.drew p cr dv ov := h.below (Below.refl _ _).drew

/-- One other block has been written, that is none of the breaker's by its type. -/
theorem Sys.mod1 {c : CB} {now : Int} {chs : List (Int × Int)} (h : Sys wx L cr r c now chs) {g : Nat} {cs : Array Value} {T : TypeId} {fr : Nat × Nat} (hg : wx.heap[g]? = some (.cells cs T fr)) (hs : Sep L cr g) (h1 : T ≠ 72) (h2 : T ≠ 24) (m : Mod [g] wx wy) : Sys wy L cr r c now chs := by
  have n {k : Nat} {x : Array Value} {U : TypeId} (hk : wx.heap[k]? = some (.cells x U (0, 0))) (hu : U ≠ T) : k ∉ [g] := by
    simp; rintro rfl; rw [hk] at hg; simp at hg; exact hu hg.2.1
  unfold Sep at hs
  simp at hs
  exact h.keep m (by simp; omega) (by simp; omega) (by simp; omega) (by simp; omega) (n h.bed.bp (Ne.symm h1)) (n h.rb (Ne.symm h2)) (n h.rs (Ne.symm h2)) (by simp; omega)
theorem DoneAt.mod1 {v : Value} {gen age : Int} (h : DoneAt wx L tw cr v gen age) {g : Nat} {cs : Array Value} {T : TypeId} {fr : Nat × Nat} (hg : wx.heap[g]? = some (.cells cs T fr)) (h1 : T ≠ 75) (h2 : T ≠ 37) (m : Mod [g] wx wy) : DoneAt wy L tw cr v gen age := by
  have n {k : Nat} {x : Array Value} {U : TypeId} (hk : wx.heap[k]? = some (.cells x U (0, 0))) (hu : U ≠ T) : k ∉ [g] := by
    simp; rintro rfl; rw [hk] at hg; simp at hg; exact hu hg.2.1
  obtain ⟨b, g', a, hv, q1, q2, q3, s1, s2, s3⟩ := h.form
  exact ⟨b, g', a, hv, m.heap q1 (n q1 (Ne.symm h1)), m.heap q2 (n q2 (Ne.symm h2)), m.heap q3 (n q3 (Ne.symm h2)), s1, s2, s3⟩
/-- The answer of a round has been written: block b. -/
theorem St.set (h : St w0 L tw r wx p cr dv ov) {g : Nat} {cs : Array Value} {fr : Nat × Nat} (hg : wx.heap[g]? = some (.cells cs 39 fr)) (hs : Sep L cr g) (ho : ov.ownBlock ≠ some g) (h0 : w0.heap.size ≤ g) (m : Mod [g] wx wy) : St w0 L tw r wy p cr dv ov := by
  obtain ⟨vals, hd, hr⟩ := h.dn
  have n {k : Nat} {x : Array Value} {U : TypeId} (hk : wx.heap[k]? = some (.cells x U (0, 0))) (hu : U ≠ 39) : k ∉ [g] := by
    simp; rintro rfl; rw [hk] at hg; simp at hg; exact hu hg.2.1
  refine ⟨h.sys.mod1 hg hs (by decide) (by decide) m, m.heap h.two (n h.two (by decide)), h.tws, ⟨vals, fun i v d hv hp => (hd i v d hv hp).mod1 hg (by decide) (by decide) m, owns_keep hr fun k hk => m.block k (hr.lt k hk).2 ?_⟩, h.dns, owns_keep h.ot fun k hk => m.block k (h.ot.lt k hk).2 (by simp; rintro rfl; exact ho hk), h.ots, h.old, h.bel.trans (m.below_of h.bel.size (by simpa using h0))⟩
  obtain ⟨_, hn⟩ := hr
  rcases hn with ⟨rfl, _⟩ | ⟨g2, cap, cur, rfl, _, hh, _⟩
  · cases hk
  · simp [Value.ownBlock] at hk; subst hk; exact n hh (by decide)

/-- What has been written is a row of others, or nothing that was there. -/
theorem St.grow (h : St w0 L tw r wx p cr dv ov) {row : Option Nat} {T : TypeId} (hT : ∀ k, row = some k → Sep L cr k ∧ w0.heap.size ≤ k ∧ ∃ cs fr, wx.heap[k]? = some (.cells cs T fr)) (h1 : T ≠ 72) (h2 : T ≠ 24) (h3 : T ≠ 115) (h4 : T ≠ 75) (h5 : T ≠ 37) (g : wx.grownBy wy row) :
    Sys wy L cr r p.c p.now p.chs ∧ TwoAt wy L tw ∧ (∀ v x y, DoneAt wx L tw cr v x y → DoneAt wy L tw cr v x y) ∧ Below w0.heap.size w0 wy ∧ Mod row.toList wx wy := by
  cases row with
  | none =>
    have b : Below wx.heap.size wx wy := ⟨g.os, g.tape, g.output, g.size, fun k hk => g.block k hk (by simp)⟩
    have h' := h.below b
    exact ⟨h'.sys, h'.two, fun v x y hd => hd.next (.inl rfl) (Mod.of_below b), h'.bel, Mod.of_below b⟩
  | some k =>
    obtain ⟨hs, h0, cs, fr, hk⟩ := hT k rfl
    have m : Mod [k] wx wy := Mod.of_grown g (by intro j hj; simp at hj; simp [hj])
    have n {j : Nat} {x : Array Value} {U : TypeId} (hj : wx.heap[j]? = some (.cells x U (0, 0))) (hu : U ≠ T) : j ∉ [k] := by
      simp; rintro rfl; rw [hj] at hk; simp at hk; exact hu hk.2.1
    exact ⟨h.sys.mod1 hk hs h1 h2 m, m.heap h.two (n h.two (Ne.symm h3)), fun v x y hd => hd.mod1 hk h4 h5 m, h.bel.trans (m.below_of h.bel.size (by simpa using h0)), m⟩

theorem own_block {base : Nat} {e : TypeId} {size n k : Nat} {v : Value} {xs : List Value} (h : wx.ownsRow base e size v n xs) (hk : v.ownBlock = some k) : base ≤ k ∧ ∃ cs fr, wx.heap[k]? = some (.cells cs e fr) := by
  refine ⟨(h.lt k hk).1, ?_⟩
  obtain ⟨_, hn⟩ := h
  rcases hn with ⟨rfl, _⟩ | ⟨g2, cap, cur, rfl, _, hh, _⟩
  · cases hk
  · simp [Value.ownBlock] at hk; subst hk; exact ⟨_, _, hh⟩

/-- One more request has gone. -/
theorem St.pushDone (h : St w0 L tw r wx p cr dv ov) {vals : List Value} {f : Value} {gen age : Int} (hd : ∀ (i : Nat) (v : Value) (d : Int × Int), vals[i]? = some v → p.dones[i]? = some d → DoneAt wx L tw cr v d.1 d.2) (ho : wx.ownsRow w0.heap.size 89 1 dv p.dones.length vals) (hf : DoneAt wx L tw cr f gen age)
    {g cap : Nat} (hown : wy.ownsRow w0.heap.size 89 1 (.slice (some ⟨g, 0, none⟩) (p.dones.length + 1) cap) (p.dones.length + 1) (vals ++ [f])) (hgrow : wx.grownBy wy dv.ownBlock) (hat : dv.ownBlock = some g ∨ g = wx.heap.size) :
    St w0 L tw r wy { p with dones := p.dones ++ [(gen, age)] } cr (.slice (some ⟨g, 0, none⟩) (p.dones.length + 1) cap) ov := by
  obtain ⟨s, t, D, b, m⟩ := h.grow (T := 89) (fun k hk => ⟨h.dns k hk, own_block ho hk⟩) (by decide) (by decide) (by decide) (by decide) (by decide) hgrow
  have hl : vals.length = p.dones.length := by have := ho.1; omega
  refine ⟨s, t, h.tws, ⟨vals ++ [f], ?_, by simpa using hown⟩, ?_, owns_keep h.ot fun k hk => m.block k (h.ot.lt k hk).2 ?_, h.ots, h.old, b⟩
  · intro i v d hv hp
    rcases Nat.lt_trichotomy i vals.length with hi | hi | hi
    · rw [List.getElem?_append_left hi] at hv
      dsimp only at hp
      rw [List.getElem?_append_left (by omega)] at hp
      exact D _ _ _ (hd i v d hv hp)
    · subst hi
      dsimp only at hp
      rw [hl] at hp
      simp at hv hp
      subst hv; subst hp
      exact D _ _ _ hf
    · rw [List.getElem?_eq_none (by simp; omega)] at hv
      cases hv
  · intro k hk
    simp [Value.ownBlock] at hk
    subst hk
    rcases hat with e | e
    · exact h.dns _ e
    · rw [e]; exact h.sys.sep (Nat.le_refl _)
  · intro hm
    have hk2 : dv.ownBlock = some k := by simpa [Option.mem_toList] using hm
    obtain ⟨_, cs, fr, e1⟩ := own_block h.ot hk
    obtain ⟨_, cs2, fr2, e2⟩ := own_block ho hk2
    rw [e1] at e2
    simp at e2
/-- One more answer. -/
theorem St.pushOut (h : St w0 L tw r wx p cr dv ov) {x : Ans} {g cap : Nat} (hown : wy.ownsRow w0.heap.size 39 9 (.slice (some ⟨g, 0, none⟩) (p.out.length + 1) cap) (p.out.length + 1) (ansFlat p.out ++ ansRow x)) (hgrow : wx.grownBy wy ov.ownBlock) (hat : ov.ownBlock = some g ∨ g = wx.heap.size) :
    St w0 L tw r wy { p with out := p.out ++ [x] } cr dv (.slice (some ⟨g, 0, none⟩) (p.out.length + 1) cap) := by
  obtain ⟨s, t, D, b, m⟩ := h.grow (T := 39) (fun k hk => ⟨h.ots k hk, own_block h.ot hk⟩) (by decide) (by decide) (by decide) (by decide) (by decide) hgrow
  obtain ⟨vals, hd, ho⟩ := h.dn
  refine ⟨s, t, h.tws, ⟨vals, fun i v d hv hp => D _ _ _ (hd i v d hv hp), owns_keep ho fun k hk => m.block k (ho.lt k hk).2 ?_⟩, h.dns, by rw [ansFlat_snoc, List.length_append]; exact hown, ?_, h.old, b⟩
  · intro hm
    have hk2 : ov.ownBlock = some k := by simpa [Option.mem_toList] using hm
    obtain ⟨_, cs, fr, e1⟩ := own_block ho hk
    obtain ⟨_, cs2, fr2, e2⟩ := own_block h.ot hk2
    rw [e1] at e2
    simp at e2
  · intro k hk
    simp [Value.ownBlock] at hk
    subst hk
    rcases hat with e | e
    · exact h.ots _ e
    · rw [e]; exact h.sys.sep (Nat.le_refl _)
end

end Go.Proofs.Ytcjklacfoldaoaa
