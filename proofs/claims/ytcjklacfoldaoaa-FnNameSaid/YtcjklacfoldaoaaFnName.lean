/- The law FnName as a contract: it is true. No condition. -/
import Derived.Test.YtcjklacfoldaoaaNewB
import Derived.Test.YtcjklacfoldaoaaNewD
import Derived.Test.YtcjklacfoldaoaaWorks
import Derived.Test.YtcjklacfoldaoaaOpen
import Derived.Deep.RegionHeld3
import Derived.Laws.Runes
namespace Go.Proofs.Ytcjklacfoldaoaa
open Go.RowKit
attribute [local go_sem ↓] Go.wp_at_zero Go.wp_at_succ

def nameR (s : ByteArray) : Rules := ⟨s, 0, 0, 0, 0, 0, 0, false, 0, false, 0⟩
theorem nameR_ok (s : ByteArray) : (nameR s).Ok := ⟨by show (0 : Int) ≤ 0; omega, by show (0 : Int) < 256; omega, by show (0 : Int) ≤ 0; omega, by show (0 : Int) < 256; omega⟩

set_option maxHeartbeats 400000 in
theorem cbName_any (b : Nat) (s : ByteArray) (w : World) (h : w.cell? ⟨b, 1, none⟩ = some (.string s)) :
    Calls Try.prog 47 #[.pointer (some ⟨b, 0, none⟩)] w fun e w' => e = .returned (.string s) ∧ w = w' := by
  go_enter Try.func47, Try.ntmps47
  go_wp2
  go_ret
  exact ⟨rfl, rfl⟩
set_option maxHeartbeats 400000 in
theorem tsName_any (t b : Nat) (s : ByteArray) (w : World) (h0 : w.cell? ⟨t, 0, none⟩ = some (.pointer (some ⟨b, 0, none⟩))) (h : w.cell? ⟨b, 1, none⟩ = some (.string s)) :
    Calls Try.prog 48 #[.pointer (some ⟨t, 0, none⟩)] w fun e w' => e = .returned (.string s) ∧ w = w' := by
  have H := Lib.hid h
  go_enter Try.func48, Try.ntmps48
  go_wp2_with fail
  refine (cbName_any b s _ H.out).mono ?_
  rintro e w' ⟨rfl, rfl⟩
  go_wp2_with fail
  go_ret
  exact ⟨rfl, rfl⟩

set_option maxRecDepth 100000 in
set_option maxHeartbeats 4000000 in
theorem names_any (s : ByteArray) (w : World) :
    Calls Try.prog 25 #[.string s] w fun e w' => e = .returned (.tuple #[.string s, .string s]) ∧ Below w.heap.size w w' := by
  go_enter Try.func25, Try.ntmps25
  go_wp2_with fail
  have B0 := Lib.hid (show Below w.heap.size w ((w.alloc (Obj.cells #[.int .i64 0, .slice none 0 0] 74)).alloc (Obj.cells (rulesArr (nameR s)) 24)) from ((Below.refl _ _).alloc (Nat.le_refl _) _).alloc (by simp) _)
  have BD0 := Lib.hid (show ((w.alloc (Obj.cells #[.int .i64 0, .slice none 0 0] 74)).alloc (Obj.cells (rulesArr (nameR s)) 24)).heap[w.heap.size]? = some (Obj.cells #[.int .i64 0, .slice none 0 0] 74 (0, 0)) from heap_alloc_lt (heap_alloc_new w _))
  have RL0 := Lib.hid (show ((w.alloc (Obj.cells #[.int .i64 0, .slice none 0 0] 74)).alloc (Obj.cells (rulesArr (nameR s)) 24)).heap[w.heap.size + 1]? = some (Obj.cells (rulesArr (nameR s)) 24 (0, 0)) from heap_alloc_at (by simp))
  have SZ := Lib.hid (show w.heap.size + 1 < ((w.alloc (Obj.cells #[.int .i64 0, .slice none 0 0] 74)).alloc (Obj.cells (rulesArr (nameR s)) 24)).heap.size by simp)
  unfold nameR rulesArr at B0 BD0 RL0 SZ
  obtain ⟨bd, hbd⟩ : ∃ bd, bd = w.heap.size := ⟨_, rfl⟩
  have EBD := Lib.hid hbd
  rw [← hbd] at BD0 RL0 SZ
  rw [← hbd]
  obtain ⟨rl, hrl⟩ : ∃ rl, rl = bd + 1 := ⟨_, rfl⟩
  rw [← hrl] at RL0 SZ
  rw [← hrl]
  have ERL := Lib.hid hrl
  clear hbd hrl
  generalize ((w.alloc (Obj.cells #[.int .i64 0, .slice none 0 0] 74)).alloc (Obj.cells #[.string s, .int .u32 0, .int .i64 0, .int .i64 0, .int .i64 0, .int .i64 0, .int .u32 0, .bool false, .int .u8 0, .bool false, .int .u8 0] 24)) = W1 at *
  have pS : ∀ i, W1.cell? ⟨rl, i, none⟩ = #[.string s, .int .u32 0, .int .i64 0, .int .i64 0, .int .i64 0, .int .i64 0, .int .u32 0, .bool false, .int .u8 0, .bool false, .int .u8 0][i]? := blk_cell RL0.out
  go_region_held3 (fun w' => ∀ i, w'.cell? ⟨rl, i, none⟩ = #[.string s, .int .u32 0, .int .i64 0, .int .i64 0, .int .i64 0, .int .i64 0, .int .u32 0, .bool false, .int .u8 0, .bool false, .int .u8 0][i]?) (first | ((try dsimp only); exact pS) | (go_keep; done))
    ((first
      | (go_at_call 48; refine (tsName_any tw (w4.heap.size + 1 + 1) s w5 TW5.out NM5.out).mono ?_; rintro e w6 ⟨rfl, rfl⟩)
      | (go_at_call 32; refine (newTwo_one bd bp4 rb4 rs4 rl 0 [] (nameR s) w4 (show (0 : Int) ≤ 0 by omega) ⟨HP4.out, _, BD4.out, World.ownsRow_nil _ _ _ _, .inl rfl⟩ HRB4.out HRS4.out (by have := Q4.out; have := X4.out; omega) (by have := Q4.out; have := X4.out; omega) (by have := Q4.out; have := X4.out; omega) (by have := Q4.out; have := X4.out; have := size_of_heap RL4.out; omega) (by have := ERL.out; omega) (by have := Q4.out; have := X4.out; omega) (by have := Q4.out; have := X4.out; omega) (by have := Q4.out; have := X4.out; omega) (nameR_ok s) (show (0 : Int) ≤ _ by omega) (show (0 : Int) ≤ _ by omega) (by omega) (by omega)).mono ?_; rintro e w5 ⟨tw, rfl, hS5, hT5, _, _, hB5⟩; have TW5 := Lib.hid (blk_cell hT5 0); have NM5 := Lib.hid (hS5.cb.cells.1 1); have BL5 := Lib.hid (BL4.out.trans (hB5.mono BL4.out.size)); have RL5 := Lib.hid ((hB5.block rl (size_of_heap RL4.out)).trans RL4.out); clear pS hS5 hT5 hB5; have pS : ∀ i, w5.cell? ⟨rl, i, none⟩ = #[.string s, .int .u32 0, .int .i64 0, .int .i64 0, .int .i64 0, .int .i64 0, .int .u32 0, .bool false, .int .u8 0, .bool false, .int .u8 0][i]? := blk_cell RL5.out)
      | (go_at_call 33; refine (settings_any bd (nameR s) w2).mono ?_; rintro e w4 ⟨bp4, rs4, rb4, rfl, hp4, hrs4, hrb4, ebp4, ers4, qrb4, hB4⟩; have HP4 := Lib.hid hp4; have HRS4 := Lib.hid hrs4; have HRB4 := Lib.hid hrb4; have Q4 := Lib.hid (And.intro ebp4 (And.intro ers4 qrb4)); have X4 := Lib.hid (show rl < w2.heap.size ∧ bd < w2.heap.size from ⟨size_of_heap RL2.out, size_of_heap BD2.out⟩); have BL4 := Lib.hid (BL2.out.trans (hB4.mono BL2.out.size)); have BD4 := Lib.hid ((hB4.block bd (size_of_heap BD2.out)).trans BD2.out); have RL4 := Lib.hid ((hB4.block rl (size_of_heap RL2.out)).trans RL2.out); clear pS hp4 hrs4 hrb4 ebp4 ers4 qrb4 hB4; have pS : ∀ i, w4.cell? ⟨rl, i, none⟩ = #[.string s, .int .u32 0, .int .i64 0, .int .i64 0, .int .i64 0, .int .i64 0, .int .u32 0, .bool false, .int .u8 0, .bool false, .int .u8 0][i]? := blk_cell RL4.out)
      | (go_at_call 47; refine (cbName_any (w1.heap.size + 1) s w2 NM2.out).mono ?_; rintro e w3 ⟨rfl, rfl⟩)
      | (go_at_call 46; refine (newCb_one bd bp1 rb1 rs1 rl 0 [] (nameR s) w1 (show (0 : Int) ≤ 0 by omega) ⟨HP1.out, _, BD1.out, World.ownsRow_nil _ _ _ _, .inl rfl⟩ HRB1.out HRS1.out (by have := Q1.out; have := X1.out; omega) (by have := Q1.out; have := X1.out; omega) (by have := Q1.out; have := X1.out; omega) (size_of_heap RL1.out) (by have := ERL.out; omega) (by have := Q1.out; have := X1.out; omega) (by have := Q1.out; have := X1.out; omega) (by have := Q1.out; have := X1.out; omega) (nameR_ok s) (show (0 : Int) ≤ _ by omega) (show (0 : Int) ≤ _ by omega) (by omega) (by omega)).mono ?_; rintro e w2 ⟨rfl, hS2, hB2⟩; have NM2 := Lib.hid (hS2.cb.cells.1 1); have BL2 := Lib.hid (BL1.out.trans (hB2.mono BL1.out.size)); have BD2 := Lib.hid ((hB2.block bd (size_of_heap BD1.out)).trans BD1.out); have RL2 := Lib.hid ((hB2.block rl (size_of_heap RL1.out)).trans RL1.out); clear pS hS2 hB2; have pS : ∀ i, w2.cell? ⟨rl, i, none⟩ = #[.string s, .int .u32 0, .int .i64 0, .int .i64 0, .int .i64 0, .int .i64 0, .int .u32 0, .bool false, .int .u8 0, .bool false, .int .u8 0][i]? := blk_cell RL2.out)
      | (go_at_call 33; refine (settings_any bd (nameR s) W1.drew).mono ?_; rintro e w1 ⟨bp1, rs1, rb1, rfl, hp1, hrs1, hrb1, ebp1, ers1, qrb1, hB1⟩; have HP1 := Lib.hid hp1; have HRS1 := Lib.hid hrs1; have HRB1 := Lib.hid hrb1; have Q1 := Lib.hid (And.intro ebp1 (And.intro ers1 qrb1)); have X1 := Lib.hid (show rl < W1.drew.heap.size ∧ bd < W1.drew.heap.size from ⟨size_of_heap (heap_drew RL0.out), size_of_heap (heap_drew BD0.out)⟩); have BL1 := Lib.hid (B0.out.drew.trans (hB1.mono B0.out.size)); have BD1 := Lib.hid ((hB1.block bd (size_of_heap (heap_drew BD0.out))).trans (heap_drew BD0.out)); have RL1 := Lib.hid ((hB1.block rl (size_of_heap (heap_drew RL0.out))).trans (heap_drew RL0.out)); clear pS hp1 hrs1 hrb1 ebp1 ers1 qrb1 hB1; have pS : ∀ i, w1.cell? ⟨rl, i, none⟩ = #[.string s, .int .u32 0, .int .i64 0, .int .i64 0, .int .i64 0, .int .i64 0, .int .u32 0, .bool false, .int .u8 0, .bool false, .int .u8 0][i]? := blk_cell RL1.out)))
  go_wp2_with fail
  go_ret2
  exact ⟨rfl, BL5.out⟩

set_option maxRecDepth 100000 in
set_option maxHeartbeats 4000000 in
theorem FnName_any (s : ByteArray) (w : World) :
    Calls Try.prog 11 #[.string s] w fun e w' => e = .returned (.bool true) ∧ Below w.heap.size w w' := by
  by_cases hn : s.size ≤ 2147483647
  · have hnz : (s.size : Int) ≤ 2147483647 := by omega
    go_enter Try.func11, Try.ntmps11
    go_wp2_with fail
    refine (names_any s _).mono ?_
    rintro e w1 ⟨rfl, hb1⟩
    go_wp2_with fail
    refine (brWorks_any _).mono ?_
    rintro e wz ⟨rfl, hbz⟩
    go_wp2_with fail
    go_ret
    exact ⟨rfl, hb1.trans (hbz.mono hb1.size)⟩
  · have hnz : ¬ ((s.size : Int) ≤ 2147483647) := by omega
    go_enter Try.func11, Try.ntmps11
    go_wp2_with fail
    go_ret
    exact ⟨rfl, Below.refl _ _⟩

theorem fnName_row (s : ByteArray) (w : World) (_ : True) :
    Calls Try.prog 11 #[.string s] w fun e w' => e = .returned (.bool true) ∧ Below w.heap.size w w' := FnName_any s w

set_option maxRecDepth 100000 in
open Go.Joins Go.ChangeShapes Go.WideShapes Go.Deep in
theorem open_text {H : Type} {enc : TypeId × Value → H} {w : World} {base : Nat} {spare : Nat → Bool} {held : Bool} {r : Reach} {b0 : Nat} {v : Value} {d : DataW H} {p : List MemPlace} (hv : Value.okWide Try.prog w r b0 9 v) (_ : DataW.Trod enc Try.prog w base spare held 9 v d p) : ∃ s, v = .string s ∧ True := by
  obtain ⟨s, rfl⟩ := okWide_string Try.underlying9 hv
  exact ⟨s, rfl, trivial⟩

end Go.Proofs.Ytcjklacfoldaoaa
