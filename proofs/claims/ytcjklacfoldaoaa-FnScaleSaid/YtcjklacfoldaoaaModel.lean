/- The breaker as plain data, and the cells in which its counts lie. No condition. -/
import Derived.Test.YtcjklacfoldaoaaBase
namespace Go.Proofs.Ytcjklacfoldaoaa
open Go.RowKit

/-- The number that a uint32 holds. -/
def w32 (n : Int) : Int := n % 4294967296
/-- The number that a uint64 holds. -/
def w64u (n : Int) : Int := IntKind.u64.wrap n

/-- Counts: requests, successes, failures, errors left out, the row of successes, the row of failures. -/
structure Cnt where
  r : Int
  s : Int
  f : Int
  x : Int
  g : Int
  h : Int
  deriving DecidableEq

namespace Cnt
def zero : Cnt := ⟨0, 0, 0, 0, 0, 0⟩
def req (c : Cnt) : Cnt := { c with r := w32 (c.r + 1) }
def succ (c : Cnt) : Cnt := { c with s := w32 (c.s + 1), g := w32 (c.g + 1), h := 0 }
def fail (c : Cnt) : Cnt := { c with f := w32 (c.f + 1), h := w32 (c.h + 1), g := 0 }
def excl (c : Cnt) : Cnt := { c with x := w32 (c.x + 1) }
def valid (c : Cnt) : Int := if c.r < c.x then 0 else w32 (c.r - c.x)
def arr (c : Cnt) : List Value := [.int .u32 c.r, .int .u32 c.s, .int .u32 c.f, .int .u32 c.x, .int .u32 c.g, .int .u32 c.h]
end Cnt

def flat (bs : List Cnt) : List Value := bs.flatMap Cnt.arr
theorem flat_length (bs : List Cnt) : (flat bs).length = bs.length * 6 := by
  induction bs with
  | nil => rfl
  | cons c l ih => simp [flat, Cnt.arr] at *; omega
theorem flat_get {bs : List Cnt} {j i : Nat} (h : j < bs.length) (hi : i < 6) : (flat bs)[j * 6 + i]? = (bs[j]).arr[i]? := by
  induction bs generalizing j with
  | nil => simp at h
  | cons c l ih =>
    cases j with
    | zero =>
      have : i < c.arr.length := by simp [Cnt.arr]; omega
      simp only [flat, List.flatMap_cons, Nat.zero_mul, Nat.zero_add, List.getElem_cons_zero]
      rw [List.getElem?_append_left this]
    | succ j =>
      have e : (j + 1) * 6 + i = c.arr.length + (j * 6 + i) := by simp [Cnt.arr]; omega
      simp only [flat, List.flatMap_cons, List.getElem_cons_succ]
      rw [e, List.getElem?_append_right (by omega)]
      have := ih (j := j) (by simpa using h)
      simpa [flat] using this
theorem flat_set {bs : List Cnt} {j i : Nat} {v : Value} {k : Cnt → Cnt} (h : j < bs.length) (hi : i < 6) (hk : (k bs[j]).arr = (bs[j]).arr.set i v) : (flat bs).set (j * 6 + i) v = flat (bs.modify j k) := by
  induction bs generalizing j with
  | nil => simp at h
  | cons c l ih =>
    cases j with
    | zero =>
      have : i < c.arr.length := by simp [Cnt.arr]; omega
      simp only [flat, List.flatMap_cons, Nat.zero_mul, Nat.zero_add, List.modify_zero_cons]
      rw [List.set_append_left _ _ this]
      simp at hk; rw [hk]
    | succ j =>
      have e : (j + 1) * 6 + i = c.arr.length + (j * 6 + i) := by simp [Cnt.arr]; omega
      simp only [flat, List.flatMap_cons, List.modify_succ_cons]
      rw [e, List.set_append_right _ _ (by omega)]
      have := ih (j := j) (by simpa using h) (by simpa using hk)
      simp only [flat] at this
      rw [← this]
      congr 2
      omega

/-- The rolling counts. -/
structure RC where
  tot : Cnt
  age : Int
  bs : List Cnt

namespace RC
def size (c : RC) : Nat := c.bs.length
def req (c : RC) : RC := { c with tot := c.tot.req, bs := c.bs.modify (c.age % c.bs.length).toNat Cnt.req }
def on (k : Cnt → Cnt) (age : Int) (c : RC) : RC :=
  if c.age < age then c else if c.age - age < c.bs.length then { c with tot := k c.tot, bs := c.bs.modify (age % c.bs.length).toNat k } else c
def clear (c : RC) : RC := { tot := .zero, age := 0, bs := List.replicate c.bs.length .zero }
end RC

def rcCells (bk : Nat) (c : RC) : Array Value :=
  #[.int .u32 c.tot.r, .int .u32 c.tot.s, .int .u32 c.tot.f, .int .u32 c.tot.x, .int .u32 c.tot.g, .int .u32 c.tot.h, .int .u64 c.age, .slice (some ⟨bk, 0, none⟩) c.bs.length c.bs.length]
/-- The rolling counts lie in the blocks rc and bk. -/
def RCat (w : World) (rc bk : Nat) (c : RC) : Prop :=
  w.heap[rc]? = some (.cells (rcCells bk c) 141 (0, 0)) ∧ w.heap[bk]? = some (.cells (flat c.bs).toArray 98 (0, 0))

theorem RCat.cells {w : World} {rc bk : Nat} {c : RC} (h : RCat w rc bk c) :
    (∀ i, w.cell? ⟨rc, i, none⟩ = #[.int .u32 c.tot.r, .int .u32 c.tot.s, .int .u32 c.tot.f, .int .u32 c.tot.x, .int .u32 c.tot.g, .int .u32 c.tot.h, .int .u64 c.age, .slice (some ⟨bk, 0, none⟩) c.bs.length c.bs.length][i]?) ∧ (∀ i, w.frozen? ⟨rc, i, none⟩ = false) :=
  ⟨blk_cell h.1, blk_free h.1⟩
theorem RCat.buck {w : World} {rc bk : Nat} {c : RC} (h : RCat w rc bk c) {j : Nat} (hj : j < c.bs.length) :
    (∀ i, i < 6 → w.cell? ⟨bk, j * 6 + i, none⟩ = (c.bs[j]).arr[i]?) ∧ (∀ i, w.frozen? ⟨bk, i, none⟩ = false) :=
  ⟨fun i hi => (blk_cell h.2 _).trans (by rw [List.getElem?_toArray]; exact flat_get hj hi), blk_free h.2⟩
theorem RCat.keep {S : List Nat} {w w' : World} {rc bk : Nat} {c : RC} (h : RCat w rc bk c) (hm : Mod S w w') (h1 : rc ∉ S) (h2 : bk ∉ S) : RCat w' rc bk c := ⟨hm.heap h.1 h1, hm.heap h.2 h2⟩

theorem modify_comp {α : Type} (l : List α) (j : Nat) (f g : α → α) : (l.modify j f).modify j g = l.modify j (fun x => g (f x)) := by
  apply List.ext_getElem?
  intro i
  simp only [List.getElem?_modify]
  by_cases h : j = i
  · simp only [h, if_true]; cases l[i]? <;> rfl
  · simp [h]
theorem modify_get {α : Type} (l : List α) (j : Nat) (f : α → α) (h : j < (l.modify j f).length) : (l.modify j f)[j] = f (l[j]'(by simpa using h)) := by simp

theorem RCat.setBuck {w : World} {rc bk : Nat} {c : RC} (h : RCat w rc bk c) (hne : rc ≠ bk) {j i : Nat} (hj : j < c.bs.length) (hi : i < 6) (v : Value) (k : Cnt → Cnt) (hk : (k c.bs[j]).arr = (c.bs[j]).arr.set i v) :
    RCat (w.setCell ⟨bk, j * 6 + i, none⟩ v) rc bk { c with bs := c.bs.modify j k } := by
  refine ⟨(heap_set_other h.1 (by simpa using hne)).trans (by simp [rcCells]), (heap_set_same h.2).trans ?_⟩
  rw [← flat_set hj hi hk]
  simp
theorem RCat.setTot {w : World} {rc bk : Nat} {c : RC} (h : RCat w rc bk c) (hne : rc ≠ bk) {i : Nat} (hi : i < 6) (v : Value) (t : Cnt) (hk : t.arr = c.tot.arr.set i v) :
    RCat (w.setCell ⟨rc, i, none⟩ v) rc bk { c with tot := t } := by
  refine ⟨(heap_set_same h.1).trans ?_, heap_set_other h.2 (by simpa using Ne.symm hne)⟩
  have e : ∀ t : Cnt, rcCells bk { c with tot := t } = (t.arr ++ [Value.int .u64 c.age, Value.slice (some ⟨bk, 0, none⟩) c.bs.length c.bs.length]).toArray := fun t => by simp [rcCells, Cnt.arr]
  have e2 := e c.tot
  have e3 := e t
  have e4 : rcCells bk c = rcCells bk { c with tot := c.tot } := rfl
  rw [e3, e4, e2, hk, List.setIfInBounds_toArray, List.set_append_left _ _ (by simp [Cnt.arr]; omega)]
theorem RCat.setAge {w : World} {rc bk : Nat} {c : RC} (h : RCat w rc bk c) (hne : rc ≠ bk) (a : Int) :
    RCat (w.setCell ⟨rc, 6, none⟩ (.int .u64 a)) rc bk { c with age := a } := by
  refine ⟨(heap_set_same h.1).trans ?_, heap_set_other h.2 (by simpa using Ne.symm hne)⟩
  simp [rcCells]

/-- Six cells that are set to 0. -/
def zero6 (w : World) (b o : Nat) : World :=
  (((((w.setCell ⟨b, o + 0, none⟩ (.int .u32 0)).setCell ⟨b, o + 1, none⟩ (.int .u32 0)).setCell ⟨b, o + 2, none⟩ (.int .u32 0)).setCell ⟨b, o + 3, none⟩ (.int .u32 0)).setCell ⟨b, o + 4, none⟩ (.int .u32 0)).setCell ⟨b, o + 5, none⟩ (.int .u32 0)
theorem RCat.zeroBuck {w : World} {rc bk : Nat} {c : RC} (h : RCat w rc bk c) (hne : rc ≠ bk) {j : Nat} (hj : j < c.bs.length) : RCat (zero6 w bk (j * 6)) rc bk { c with bs := c.bs.modify j (fun _ => Cnt.zero) } := by
  have h0 := h.setBuck hne (j := j) (i := 0) hj (by omega) (.int .u32 0) (fun c => { c with r := 0 }) rfl
  have h1 := h0.setBuck hne (j := j) (i := 1) (by simpa using hj) (by omega) (.int .u32 0) (fun c => { c with s := 0 }) rfl
  have h2 := h1.setBuck hne (j := j) (i := 2) (by simpa using hj) (by omega) (.int .u32 0) (fun c => { c with f := 0 }) rfl
  have h3 := h2.setBuck hne (j := j) (i := 3) (by simpa using hj) (by omega) (.int .u32 0) (fun c => { c with x := 0 }) rfl
  have h4 := h3.setBuck hne (j := j) (i := 4) (by simpa using hj) (by omega) (.int .u32 0) (fun c => { c with g := 0 }) rfl
  have h5 := h4.setBuck hne (j := j) (i := 5) (by simpa using hj) (by omega) (.int .u32 0) (fun c => { c with h := 0 }) rfl
  simp only [modify_comp] at h5
  exact h5
theorem RCat.zeroTot {w : World} {rc bk : Nat} {c : RC} (h : RCat w rc bk c) (hne : rc ≠ bk) : RCat (zero6 w rc 0) rc bk { c with tot := Cnt.zero } := by
  have h0 := h.setTot hne (i := 0) (by omega) (.int .u32 0) { c.tot with r := 0 } rfl
  have h1 := h0.setTot hne (i := 1) (by omega) (.int .u32 0) { c.tot with r := 0, s := 0 } rfl
  have h2 := h1.setTot hne (i := 2) (by omega) (.int .u32 0) { c.tot with r := 0, s := 0, f := 0 } rfl
  have h3 := h2.setTot hne (i := 3) (by omega) (.int .u32 0) { c.tot with r := 0, s := 0, f := 0, x := 0 } rfl
  have h4 := h3.setTot hne (i := 4) (by omega) (.int .u32 0) { c.tot with r := 0, s := 0, f := 0, x := 0, g := 0 } rfl
  have h5 := h4.setTot hne (i := 5) (by omega) (.int .u32 0) Cnt.zero rfl
  exact h5
theorem Mod.zero6 {S : List Nat} {a w : World} (h : Mod S a w) {b : Nat} (hb : b ∈ S) (o : Nat) : Mod S a (zero6 w b o) :=
  (((((h.setCell _ _ (.inl hb)).setCell _ _ (.inl hb)).setCell _ _ (.inl hb)).setCell _ _ (.inl hb)).setCell _ _ (.inl hb)).setCell _ _ (.inl hb)

end Go.Proofs.Ytcjklacfoldaoaa
