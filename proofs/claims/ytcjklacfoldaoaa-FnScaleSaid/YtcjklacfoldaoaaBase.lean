/- Words for worlds: which blocks may have changed, and the cells of a block that is known whole. No condition. -/
import Derived.Test.YtcjklacfoldaoaaProg
import Derived.WalkKit
import Derived.WalkSpells
import Derived.WalkLawsBesides
import Derived.Lib.Hide
import Derived.Deep.Draws
namespace Go.Proofs.Ytcjklacfoldaoaa
open Go.RowKit

/-- Only the blocks of the list may have changed; new blocks may have come. -/
structure Mod (S : List Nat) (w w' : World) : Prop where
  os : w'.os = w.os
  tape : w'.tape = w.tape
  output : w'.output = w.output
  size : w.heap.size ≤ w'.heap.size
  block : ∀ k, k < w.heap.size → k ∉ S → w'.heap[k]? = w.heap[k]?

theorem Mod.refl (S : List Nat) (w : World) : Mod S w w := ⟨rfl, rfl, rfl, Nat.le_refl _, fun _ _ _ => rfl⟩
theorem Mod.drew {S : List Nat} {a w : World} (h : Mod S a w) : Mod S a w.drew := ⟨h.os, h.tape, h.output, h.size, h.block⟩
theorem Mod.drewN {S : List Nat} {a w : World} (h : Mod S a w) (n : Nat) : Mod S a (w.drewN n) := ⟨h.os, h.tape, h.output, h.size, h.block⟩
theorem Mod.trans {S : List Nat} {a b c : World} (h : Mod S a b) (k : Mod S b c) : Mod S a c :=
  ⟨k.os.trans h.os, k.tape.trans h.tape, k.output.trans h.output, Nat.le_trans h.size k.size, fun i hi hs => (k.block i (Nat.lt_of_lt_of_le hi h.size) hs).trans (h.block i hi hs)⟩
/-- The second step may write new blocks besides. -/
theorem Mod.trans_new {S S' : List Nat} {a b c : World} (h : Mod S a b) (k : Mod S' b c) (hS : ∀ i ∈ S', i ∈ S ∨ a.heap.size ≤ i) : Mod S a c :=
  ⟨k.os.trans h.os, k.tape.trans h.tape, k.output.trans h.output, Nat.le_trans h.size k.size, fun i hi hs => (k.block i (Nat.lt_of_lt_of_le hi h.size) (fun hm => by
    rcases hS i hm with h1 | h1
    · exact hs h1
    · omega)).trans (h.block i hi hs)⟩
theorem Mod.mono {S S' : List Nat} {w w' : World} (h : Mod S w w') (hS : ∀ i ∈ S, i ∈ S') : Mod S' w w' :=
  ⟨h.os, h.tape, h.output, h.size, fun i hi hs => h.block i hi (fun hm => hs (hS i hm))⟩
theorem Mod.of_below {S : List Nat} {w w' : World} (h : Below w.heap.size w w') : Mod S w w' := ⟨h.os, h.tape, h.output, h.size, fun k hk _ => h.block k hk⟩
theorem Mod.below {w w' : World} (h : Mod [] w w') : Below w.heap.size w w' := ⟨h.os, h.tape, h.output, h.size, fun k hk => h.block k hk (by simp)⟩
theorem Mod.alloc {S : List Nat} {a w : World} (h : Mod S a w) (o : Obj) : Mod S a (w.alloc o) :=
  h.trans (Mod.of_below ((Below.refl _ _).alloc (Nat.le_refl _) _))
theorem Mod.setCell {S : List Nat} {a w : World} (h : Mod S a w) (p : Addr) (v : Value) (hp : p.block ∈ S ∨ a.heap.size ≤ p.block) : Mod S a (w.setCell p v) :=
  h.trans_new (S' := [p.block]) ⟨rfl, rfl, rfl, by simp [World.setCell], fun k _ hs => Below.heap_setCell _ _ _ _ (by simpa using hs)⟩ (by simpa using hp)
theorem Mod.below_of {B : Nat} {S : List Nat} {w w' : World} (h : Mod S w w') (hB : B ≤ w.heap.size) (hS : ∀ i ∈ S, B ≤ i) : Below B w w' :=
  ⟨h.os, h.tape, h.output, h.size, fun k hk => h.block k (Nat.lt_of_lt_of_le hk hB) (fun hm => by have := hS k hm; omega)⟩
theorem Mod.heap {S : List Nat} {w w' : World} (h : Mod S w w') {b : Nat} {o : Obj} (hb : w.heap[b]? = some o) (hS : b ∉ S) : w'.heap[b]? = some o := by
  have : b < w.heap.size := by
    rcases Nat.lt_or_ge b w.heap.size with h' | h'
    · exact h'
    · simp [Array.getElem?_eq_none h'] at hb
  rw [h.block b this hS]; exact hb

theorem size_of_heap {w : World} {b : Nat} {o : Obj} (hb : w.heap[b]? = some o) : b < w.heap.size := by
  rcases Nat.lt_or_ge b w.heap.size with h' | h'
  · exact h'
  · simp [Array.getElem?_eq_none h'] at hb

/-- The cells of a block that is known whole. -/
theorem blk_cell {w : World} {b : Nat} {cs : Array Value} {T : TypeId} {fr : Nat × Nat} (h : w.heap[b]? = some (.cells cs T fr)) : ∀ i, w.cell? ⟨b, i, none⟩ = cs[i]? := by
  intro i; simp [World.cell?, h]
theorem blk_free {w : World} {b : Nat} {cs : Array Value} {T : TypeId} (h : w.heap[b]? = some (.cells cs T (0, 0))) : ∀ i, w.frozen? ⟨b, i, none⟩ = false := by
  intro i; simp [World.frozen?, h]

theorem heap_alloc_lt {w : World} {o x : Obj} {b : Nat} (h : w.heap[b]? = some x) : (w.alloc o).heap[b]? = some x := by
  rw [Below.heap_alloc _ _ _ (size_of_heap h)]; exact h
theorem heap_alloc_new (w : World) (o : Obj) : (w.alloc o).heap[w.heap.size]? = some o := by
  show (w.heap.push o)[w.heap.size]? = some o
  simp
theorem heap_set_same {w : World} {b i : Nat} {v : Value} {cs : Array Value} {T : TypeId} {fr : Nat × Nat} (h : w.heap[b]? = some (.cells cs T fr)) : (w.setCell ⟨b, i, none⟩ v).heap[b]? = some (.cells (cs.setIfInBounds i v) T fr) := by
  simp [World.setCell, Array.getElem?_modify, h]
theorem heap_set_other {w : World} {b : Nat} {a : Addr} {v : Value} {x : Obj} (h : w.heap[b]? = some x) (hb : b ≠ a.block) : (w.setCell a v).heap[b]? = some x := by
  rw [Below.heap_setCell _ _ _ _ hb]; exact h
theorem heap_drew {w : World} {b : Nat} {x : Obj} (h : w.heap[b]? = some x) : w.drew.heap[b]? = some x := h

/-- What the walk wants of a world behind a contract that keeps the blocks below B. -/
theorem bcell {B : Nat} {W w1 : World} (hb : Below B W w1) : (∀ b o, b < B → w1.cell? ⟨b, o, none⟩ = W.cell? ⟨b, o, none⟩) ∧ (∀ b o, b < B → w1.frozen? ⟨b, o, none⟩ = W.frozen? ⟨b, o, none⟩) :=
  ⟨fun b o h => hb.cell (p := ⟨b, o, none⟩) h, fun b o h => hb.frozen (p := ⟨b, o, none⟩) h⟩

theorem heap_alloc_at {w : World} {o : Obj} {n : Nat} (h : w.heap.size = n) : (w.alloc o).heap[n]? = some o := by subst h; exact heap_alloc_new w o
/-- A block of a world, read behind a call that keeps what lay there. -/
theorem kept {W w1 : World} (hb : Below W.heap.size W w1) {b : Nat} {A : Array Value} {T : TypeId} (h : W.heap[b]? = some (.cells A T (0, 0))) :
    (∀ i, w1.cell? ⟨b, i, none⟩ = A[i]?) ∧ (∀ i, w1.frozen? ⟨b, i, none⟩ = false) ∧ b < w1.heap.size ∧ w1.heap[b]? = some (.cells A T (0, 0)) :=
  have f := (hb.block b (size_of_heap h)).trans h
  ⟨blk_cell f, blk_free f, size_of_heap f, f⟩
theorem keptM {S : List Nat} {W w1 : World} (hb : Mod S W w1) {b : Nat} {A : Array Value} {T : TypeId} (h : W.heap[b]? = some (.cells A T (0, 0))) (hS : b ∉ S) :
    (∀ i, w1.cell? ⟨b, i, none⟩ = A[i]?) ∧ (∀ i, w1.frozen? ⟨b, i, none⟩ = false) ∧ b < w1.heap.size ∧ w1.heap[b]? = some (.cells A T (0, 0)) :=
  have f := hb.heap h hS
  ⟨blk_cell f, blk_free f, size_of_heap f, f⟩

theorem alloc_keep {W : World} {b : Nat} {A : Array Value} (h : ∀ i, W.cell? ⟨b, i, none⟩ = A[i]?) (hb : b < W.heap.size) (o : Obj) : ∀ i, (W.alloc o).cell? ⟨b, i, none⟩ = A[i]? :=
  fun i => (World.cell?_alloc_lt W o ⟨b, i, none⟩ hb).trans (h i)

end Go.Proofs.Ytcjklacfoldaoaa
