/- Contract of currentState as one. Conditions: the breaker, its bed and its rules lie in their blocks, the numbers are in their ranges; for a rolling window the law of rolling is a premise. -/
import Derived.Test.YtcjklacfoldaoaaCur
namespace Go.Proofs.Ytcjklacfoldaoaa
open Go.RowKit

namespace RC
/-- The sum over the other buckets, behind bucket k. -/
def subSum (bs : List Cnt) (k : Nat) (f : Cnt → Int) (init : Int) (m : Nat) : Int :=
  (List.range m).foldl (fun t i => w32 (t + f (bs.getD ((k + 1 + i) % bs.length) Cnt.zero))) init
def less (a b : Int) : Int := if b < a then w32 (a - b) else 0
/-- The oldest bucket is taken off the counts. -/
def subtract (c : RC) (k : Nat) : RC :=
  let b := c.bs.getD k Cnt.zero
  { c with tot := { r := less c.tot.r b.r, s := less c.tot.s b.s, f := less c.tot.f b.f, x := less c.tot.x b.x,
                    g := if c.tot.g = subSum c.bs k Cnt.s b.g (c.bs.length - 1) then less c.tot.g b.g else c.tot.g,
                    h := if c.tot.h = subSum c.bs k Cnt.f b.h (c.bs.length - 1) then less c.tot.h b.h else c.tot.h } }
def roll (c : RC) : RC :=
  let a := w64u (c.age + 1)
  let k := (a % c.bs.length).toNat
  let d := ({ c with age := a } : RC).subtract k
  { d with bs := d.bs.modify k (fun _ => Cnt.zero) }
def rolls : Nat → RC → RC
  | 0, c => c
  | n + 1, c => rolls n c.roll
def grow (c : RC) (a : Int) : RC :=
  if a ≤ c.age then c else if (c.bs.length : Int) ≤ a - c.age then { c.clear with age := a } else rolls (a - c.age).toNat c
end RC

namespace CB
def ageAt (c : CB) (now : Int) : Int := if c.period = 0 then 0 else (now - c.start) / c.period
/-- The breaker looks at its clock. -/
def look (c : CB) (now : Int) : CB :=
  if c.state = 0 then (if c.exp ≠ T0 ∧ c.exp < now then c.newGen now else if 2 ≤ c.rc.bs.length then { c with rc := c.rc.grow (c.ageAt now) } else c)
  else if c.state = 2 ∧ c.exp < now then ({ c with state := 1 } : CB).newGen now else c
def lookTold (c : CB) (now : Int) : List (Int × Int) := if c.state = 2 ∧ c.exp < now then [(2, 1)] else []
end CB

/-- What is asked of a rolling window. -/
structure RollCond (c : CB) (now : Int) : Prop where
  start0 : -3000000000000000000 ≤ c.start
  start1 : c.start ≤ now
  per : 0 < c.period
  expz : c.state = 0 → c.exp = T0

/-- The law of a rolling window. -/
def RollSaid : Prop := ∀ (L : Loc) (cr : Nat) (r : Rules) (c : CB) (now : Int) (chs : List (Int × Int)) (w : World), Sys w L cr r c now chs → chs.length ≤ 1000000 → c.state = 0 → c.exp = T0 → 2 ≤ c.rc.bs.length → RollCond c now →
    Calls Try.prog 76 #[.pointer (some ⟨L.cb, 0, none⟩), .agg #[.int .u64 (NS now), .int .i64 (SEC now), .pointer none]] w fun e w' => e = .returned (.tuple #[.int .i64 (c.look now).state, .int .u64 (c.look now).gen, .int .u64 (c.look now).rc.age]) ∧ Evo L r w cr w' (c.look now) now chs

/-- A window that is not rolling, or one of which the law is at hand. -/
def Win (c : CB) (now : Int) : Prop := c.rc.bs.length < 2 ∨ (RollSaid ∧ RollCond c now)

theorem look_any (L : Loc) (cr : Nat) (r : Rules) (c : CB) (now : Int) (chs : List (Int × Int)) (w : World) (h : Sys w L cr r c now chs) (hlen : chs.length ≤ 1000000) (hw : Win c now) :
    Calls Try.prog 76 #[.pointer (some ⟨L.cb, 0, none⟩), .agg #[.int .u64 (NS now), .int .i64 (SEC now), .pointer none]] w fun e w' => e = .returned (.tuple #[.int .i64 (c.look now).state, .int .u64 (c.look now).gen, .int .u64 (c.look now).rc.age]) ∧ Evo L r w cr w' (c.look now) now (chs ++ c.lookTold now) := by
  have a1 := h.ok.st0
  have a2 := h.ok.st1
  have hs : c.state = 0 ∨ c.state = 1 ∨ c.state = 2 := by omega
  rcases hs with hs | hs | hs
  · have e1 : c.lookTold now = [] := by unfold CB.lookTold; rw [if_neg (by omega)]
    rw [e1, List.append_nil]
    by_cases hx : c.exp = T0
    · rcases hw with hn | ⟨hr, hc⟩
      · have e2 : c.look now = c := by unfold CB.look; rw [if_pos hs, if_neg (by simp [hx]), if_neg (by omega)]
        rw [e2]; exact cur_closed0 L cr r c now chs w h hlen hs hx hn
      · by_cases hn : 2 ≤ c.rc.bs.length
        · exact hr L cr r c now chs w h hlen hs hx hn hc
        · have e2 : c.look now = c := by unfold CB.look; rw [if_pos hs, if_neg (by simp [hx]), if_neg (by omega)]
          rw [e2]; exact cur_closed0 L cr r c now chs w h hlen hs hx (by omega)
    · by_cases hy : c.exp < now
      · have e2 : c.look now = c.newGen now := by unfold CB.look; rw [if_pos hs, if_pos ⟨hx, hy⟩]
        rw [e2]; exact cur_closedexp L cr r c now chs w h hlen hs hx hy
      · rcases hw with hn | ⟨hr, hc⟩
        · have e2 : c.look now = c := by unfold CB.look; rw [if_pos hs, if_neg (by simp [hy]), if_neg (by omega)]
          rw [e2]; exact cur_closedlive L cr r c now chs w h hlen hs hx (by omega) hn
        · exact absurd (hc.expz hs) hx
  · have e1 : c.lookTold now = [] := by unfold CB.lookTold; rw [if_neg (by omega)]
    have e2 : c.look now = c := by unfold CB.look; rw [if_neg (by omega), if_neg (by omega)]
    rw [e1, e2, List.append_nil]
    exact cur_half L cr r c now chs w h hlen hs
  · by_cases hy : c.exp < now
    · have e1 : c.lookTold now = [(2, 1)] := by unfold CB.lookTold; rw [if_pos ⟨hs, hy⟩]
      have e2 : c.look now = ({ c with state := 1 } : CB).newGen now := by unfold CB.look; rw [if_neg (by omega), if_pos ⟨hs, hy⟩]
      rw [e1, e2]
      exact cur_openexp L cr r c now chs w h hlen hs hy
    · have e1 : c.lookTold now = [] := by unfold CB.lookTold; rw [if_neg (by omega)]
      have e2 : c.look now = c := by unfold CB.look; rw [if_neg (by omega), if_neg (by omega)]
      rw [e1, e2, List.append_nil]
      exact cur_openlive L cr r c now chs w h hlen hs (by omega)

/-- The texts of the two errors. -/
def openText : ByteArray := ⟨#[99, 105, 114, 99, 117, 105, 116, 32, 98, 114, 101, 97, 107, 101, 114, 32, 105, 115, 32, 111, 112, 101, 110]⟩
def manyText : ByteArray := ⟨#[116, 111, 111, 32, 109, 97, 110, 121, 32, 114, 101, 113, 117, 101, 115, 116, 115]⟩
/-- The error of a code: 1 open, 2 too many requests. -/
def codeV (n : Int) : Value := if n = 1 then .iface 127 (.string openText) else if n = 2 then .iface 127 (.string manyText) else .nilIface

namespace CB
/-- A request wants to go. -/
def beforeCode (d : CB) : Int := if d.state = 2 then 1 else if d.state = 1 ∧ d.maxReq ≤ d.rc.tot.valid then 2 else 0
def before1 (d : CB) : CB := if d.state = 2 then d else if d.state = 1 ∧ d.maxReq ≤ d.rc.tot.valid then d else { d with rc := d.rc.req }
end CB

end Go.Proofs.Ytcjklacfoldaoaa
