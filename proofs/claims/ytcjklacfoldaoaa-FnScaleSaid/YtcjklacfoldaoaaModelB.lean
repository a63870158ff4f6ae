/- The breaker as plain data, and the blocks in which it lies. No condition. -/
import Derived.Test.YtcjklacfoldaoaaModel
import Derived.Test.YtcjklacfoldaoaaTime3
namespace Go.Proofs.Ytcjklacfoldaoaa
open Go.RowKit

/-- The settings that a breaker of the thin package is made of. -/
structure Rules where
  name : ByteArray
  most : Int
  interval : Int
  bucket : Int
  timeout : Int
  trip : Int
  bound : Int
  hasGood : Bool
  good : Int
  hasOut : Bool
  out : Int

def rulesArr (r : Rules) : Array Value :=
  #[.string r.name, .int .u32 r.most, .int .i64 r.interval, .int .i64 r.bucket, .int .i64 r.timeout, .int .i64 r.trip, .int .u32 r.bound, .bool r.hasGood, .int .u8 r.good, .bool r.hasOut, .int .u8 r.out]

/-- What changes in a breaker. -/
structure CB where
  maxReq : Int
  interval : Int
  period : Int
  timeout : Int
  state : Int
  gen : Int
  rc : RC
  start : Int
  exp : Int

/-- The blocks: the breaker, its counts, the buckets, the bed, the variable that holds the bed's address, the two that hold the rules. -/
structure Loc where
  cb : Nat
  rc : Nat
  bk : Nat
  bd : Nat
  bp : Nat
  rb : Nat
  rs : Nat

structure Loc.Ok (L : Loc) : Prop where
  cb_rc : L.cb ≠ L.rc
  cb_bk : L.cb ≠ L.bk
  cb_bd : L.cb ≠ L.bd
  cb_bp : L.cb ≠ L.bp
  cb_rb : L.cb ≠ L.rb
  cb_rs : L.cb ≠ L.rs
  rc_bk : L.rc ≠ L.bk
  rc_bd : L.rc ≠ L.bd
  rc_bp : L.rc ≠ L.bp
  rc_rb : L.rc ≠ L.rb
  rc_rs : L.rc ≠ L.rs
  bk_bd : L.bk ≠ L.bd
  bk_bp : L.bk ≠ L.bp
  bk_rb : L.bk ≠ L.rb
  bk_rs : L.bk ≠ L.rs
  bd_bp : L.bd ≠ L.bp
  bd_rb : L.bd ≠ L.rb
  bd_rs : L.bd ≠ L.rs

/-- The function values of a breaker that is made of rules. -/
def nowV (L : Loc) : Value := .func (.func 52) #[] #[.pointer (some ⟨L.bp, 0, none⟩)]
def chV (L : Loc) : Value := .func (.func 55) #[] #[.pointer (some ⟨L.bp, 0, none⟩)]
def tripV (L : Loc) (r : Rules) : Value :=
  if r.trip = 1 then .func (.func 78) #[] #[.pointer (some ⟨L.rb, 0, none⟩)]
  else if r.trip = 2 then .func (.func 79) #[] #[.pointer (some ⟨L.rb, 0, none⟩)]
  else if r.trip = 3 then .func (.func 80) #[] #[.pointer (some ⟨L.rb, 0, none⟩)]
  else if r.trip = 4 then .func (.func 81) #[] #[]
  else if r.trip = 5 then .func (.func 82) #[] #[]
  else .func (.func 69) #[] #[]
def goodV (L : Loc) (r : Rules) : Value := if r.hasGood then .func (.func 56) #[] #[.pointer (some ⟨L.rs, 0, none⟩)] else .func (.func 70) #[] #[]
def outV (L : Loc) (r : Rules) : Value := if r.hasOut then .func (.func 58) #[] #[.pointer (some ⟨L.rs, 0, none⟩)] else .func (.func 71) #[] #[]

def cbArr (L : Loc) (r : Rules) (c : CB) : Array Value :=
  #[nowV L, .string r.name, .int .u32 c.maxReq, .int .i64 c.interval, .int .i64 c.period, .int .i64 c.timeout, tripV L r, goodV L r, outV L r, chV L,
    .int .i64 c.state, .int .u64 c.gen, .pointer (some ⟨L.rc, 0, none⟩), .int .u64 (NS c.start), .int .i64 (SEC c.start), .pointer none, .int .u64 (NS c.exp), .int .i64 (SEC c.exp), .pointer none]

/-- The breaker lies in its three blocks. -/
structure CBat (w : World) (L : Loc) (r : Rules) (c : CB) : Prop where
  cb : w.heap[L.cb]? = some (.cells (cbArr L r c) 123 (0, 0))
  rc : RCat w L.rc L.bk c.rc

theorem CBat.cells {w : World} {L : Loc} {r : Rules} {c : CB} (h : CBat w L r c) :
    (∀ i, w.cell? ⟨L.cb, i, none⟩ = #[nowV L, .string r.name, .int .u32 c.maxReq, .int .i64 c.interval, .int .i64 c.period, .int .i64 c.timeout, tripV L r, goodV L r, outV L r, chV L,
    .int .i64 c.state, .int .u64 c.gen, .pointer (some ⟨L.rc, 0, none⟩), .int .u64 (NS c.start), .int .i64 (SEC c.start), .pointer none, .int .u64 (NS c.exp), .int .i64 (SEC c.exp), .pointer none][i]?) ∧
    (∀ i, w.frozen? ⟨L.cb, i, none⟩ = false) := ⟨blk_cell h.cb, blk_free h.cb⟩
theorem CBat.keep {S : List Nat} {w w' : World} {L : Loc} {r : Rules} {c : CB} (h : CBat w L r c) (hm : Mod S w w') (h1 : L.cb ∉ S) (h2 : L.rc ∉ S) (h3 : L.bk ∉ S) : CBat w' L r c :=
  ⟨hm.heap h.cb h1, h.rc.keep hm h2 h3⟩
theorem RCat.setOther {w : World} {rc bk : Nat} {c : RC} (h : RCat w rc bk c) (a : Addr) (v : Value) (h1 : rc ≠ a.block) (h2 : bk ≠ a.block) : RCat (w.setCell a v) rc bk c := ⟨heap_set_other h.1 h1, heap_set_other h.2 h2⟩
theorem RCat.alloc {w : World} {rc bk : Nat} {c : RC} (h : RCat w rc bk c) (o : Obj) : RCat (w.alloc o) rc bk c := ⟨heap_alloc_lt h.1, heap_alloc_lt h.2⟩
theorem CBat.alloc {w : World} {L : Loc} {r : Rules} {c : CB} (h : CBat w L r c) (o : Obj) : CBat (w.alloc o) L r c := ⟨heap_alloc_lt h.cb, h.rc.alloc o⟩
theorem CBat.drew {w : World} {L : Loc} {r : Rules} {c : CB} (h : CBat w L r c) : CBat w.drew L r c := ⟨h.cb, h.rc⟩
theorem CBat.drewN {w : World} {L : Loc} {r : Rules} {c : CB} (h : CBat w L r c) (n : Nat) : CBat (w.drewN n) L r c := ⟨h.cb, h.rc⟩

section
variable {w : World} {L : Loc} {r : Rules} {c : CB}
theorem CBat.setGen (h : CBat w L r c) (ok : L.Ok) (g : Int) : CBat (w.setCell ⟨L.cb, 11, none⟩ (.int .u64 g)) L r { c with gen := g } :=
  ⟨(heap_set_same h.cb).trans (by simp [cbArr]), h.rc.setOther _ _ ok.cb_rc.symm ok.cb_bk.symm⟩
theorem CBat.setState (h : CBat w L r c) (ok : L.Ok) (g : Int) : CBat (w.setCell ⟨L.cb, 10, none⟩ (.int .i64 g)) L r { c with state := g } :=
  ⟨(heap_set_same h.cb).trans (by simp [cbArr]), h.rc.setOther _ _ ok.cb_rc.symm ok.cb_bk.symm⟩
theorem CBat.setStart (h : CBat w L r c) (ok : L.Ok) (t : Int) : CBat (((w.setCell ⟨L.cb, 13, none⟩ (.int .u64 (NS t))).setCell ⟨L.cb, 14, none⟩ (.int .i64 (SEC t))).setCell ⟨L.cb, 15, none⟩ (.pointer none)) L r { c with start := t } :=
  ⟨(heap_set_same (heap_set_same (heap_set_same h.cb))).trans (by simp [cbArr]), ((h.rc.setOther _ _ ok.cb_rc.symm ok.cb_bk.symm).setOther _ _ ok.cb_rc.symm ok.cb_bk.symm).setOther _ _ ok.cb_rc.symm ok.cb_bk.symm⟩
theorem CBat.setExp (h : CBat w L r c) (ok : L.Ok) (t : Int) : CBat (((w.setCell ⟨L.cb, 16, none⟩ (.int .u64 (NS t))).setCell ⟨L.cb, 17, none⟩ (.int .i64 (SEC t))).setCell ⟨L.cb, 18, none⟩ (.pointer none)) L r { c with exp := t } :=
  ⟨(heap_set_same (heap_set_same (heap_set_same h.cb))).trans (by simp [cbArr]), ((h.rc.setOther _ _ ok.cb_rc.symm ok.cb_bk.symm).setOther _ _ ok.cb_rc.symm ok.cb_bk.symm).setOther _ _ ok.cb_rc.symm ok.cb_bk.symm⟩
theorem CBat.withRc (h : w.heap[L.cb]? = some (.cells (cbArr L r c) 123 (0, 0))) {x : RC} (hx : RCat w L.rc L.bk x) : CBat w L r { c with rc := x } := ⟨h, hx⟩
end

namespace CB
/-- A new generation. -/
def expNew (c : CB) (now : Int) : Int :=
  if c.state = 0 then (if c.interval = 0 ∨ 2 ≤ c.rc.bs.length then T0 else now + c.interval) else if c.state = 2 then now + c.timeout else T0
def newGen (c : CB) (now : Int) : CB := { c with gen := w64u (c.gen + 1), start := now, rc := c.rc.clear, exp := c.expNew now }
end CB

/-- What is known of a breaker's numbers. -/
structure CB.Ok (c : CB) : Prop where
  pos : 0 < c.rc.bs.length
  few : c.rc.bs.length ≤ 1000000
  age0 : 0 ≤ c.rc.age
  age1 : c.rc.age ≤ 9000000000000000000
  int0 : 0 ≤ c.interval
  int1 : c.interval ≤ 1000000000000000000
  per0 : 0 ≤ c.period
  per1 : c.period ≤ 1000000000000000000
  tim0 : 0 < c.timeout
  tim1 : c.timeout ≤ 1000000000000000000
  st0 : 0 ≤ c.state
  st1 : c.state ≤ 2

end Go.Proofs.Ytcjklacfoldaoaa
