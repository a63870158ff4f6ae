/-
  No cell of these rows narrows 'for every input' (looked for: loops, veiled, ifaces, maps, wideKeys, modest, calm, conditions, laid).
  DERIVED. THE GIVEN ROWS OF THIS SEAT. 5 by the template 'for every input the law returns true; each argument reads behind the call as it read before'; 0 by the template 'total and deterministic' (their statements: YtcjklacfoldaoaaGreatTotals.lean).
  GIVEN WITH THE SEED: the statements are not yours to turn. If you find one false, say at which input.
  Laid BY PROGRAM, IN A SANDBOX (cutbox-rows.mjs): the forced cells as the released guide's own fill.sh prints them over the translation f4ac1e266c6827df… (all of the seat's roots in one cut). By AI agents, Wed Nov 11 2026. No macro, syntax, notation, axiom, sorry.
-/
import Derived.Test.YtcjklacfoldaoaaGreatChecked
import GoSem.Claim
import GoSem.ClaimJoined
import GoSem.ClaimMapViews
import Derived.JoinedTies
import Derived.KernelRfl
namespace Go.Proofs.YtcjklacfoldaoaaGreat
/- THE CELL 'sum', in the pinned program and in every row, IS THE sha256 OF THE DUMP (.gsa) THAT YtcjklacfoldaoaaGreatProg.lean LOADS. Nothing in Lean hashes anything: it is a label: what it is worth is what the hold of that sum in a sandbox is worth. -/
noncomputable def Tryz.pinned : Pinned := { name := "ytcjklacfoldaoaagreat", sum := "f4ac1e266c6827dfbfb1fbc937e4d4baffad679a40a8922b9528a35b160908d1", checked := Tryz.checked }
namespace Rows
def none {H : Type} : Left H := { results := [], args := [] }

/-- 'laws.FnAlways': WHATEVER THE INPUT: true; the input reads as it did. -/
def fnAlwaysSpec : ChangeSpec := { name := "fnAlways", fn := fun _ => fun
  | [d1, d2, d3] => { results := [.lit (.bool true)], args := [d1, d2, d3] }
  | _ => none }
def fnAlwaysRow : OpenClaim := { program := "ytcjklacfoldaoaagreat", sum := "f4ac1e266c6827dfbfb1fbc937e4d4baffad679a40a8922b9528a35b160908d1", func := "loop.example/pub-g01518/laws.FnAlways", spec := "fnAlways", unfollowed := true, recurses := true, apart := false }
def FnAlwaysSaid : Prop := fnAlwaysRow.holds Tryz.pinned (OpenSpec.ofChange fnAlwaysSpec)

/-- ITS FALSE NEIGHBOUR: 'it returns false'. Refute it at one input. -/
def fnAlwaysWrong : ChangeSpec := { name := "fnAlways", fn := fun _ => fun
  | [d1, d2, d3] => { results := [.lit (.bool false)], args := [d1, d2, d3] }
  | _ => none }
def FnAlwaysWrongFalsely : Prop := fnAlwaysRow.holds Tryz.pinned (OpenSpec.ofChange fnAlwaysWrong)

/-- 'laws.FnCalls': WHATEVER THE INPUT: true; the input reads as it did. -/
def fnCallsSpec : ChangeSpec := { name := "fnCalls", fn := fun _ => fun
  | [d1, d2, d3] => { results := [.lit (.bool true)], args := [d1, d2, d3] }
  | _ => none }
def fnCallsRow : OpenClaim := { program := "ytcjklacfoldaoaagreat", sum := "f4ac1e266c6827dfbfb1fbc937e4d4baffad679a40a8922b9528a35b160908d1", func := "loop.example/pub-g01518/laws.FnCalls", spec := "fnCalls", unfollowed := true, recurses := true, apart := false }
def FnCallsSaid : Prop := fnCallsRow.holds Tryz.pinned (OpenSpec.ofChange fnCallsSpec)

/-- ITS FALSE NEIGHBOUR: 'it returns false'. Refute it at one input. -/
def fnCallsWrong : ChangeSpec := { name := "fnCalls", fn := fun _ => fun
  | [d1, d2, d3] => { results := [.lit (.bool false)], args := [d1, d2, d3] }
  | _ => none }
def FnCallsWrongFalsely : Prop := fnCallsRow.holds Tryz.pinned (OpenSpec.ofChange fnCallsWrong)

/-- 'laws.FnNever': WHATEVER THE INPUT: true; the input reads as it did. -/
def fnNeverSpec : ChangeSpec := { name := "fnNever", fn := fun _ => fun
  | [d1, d2, d3] => { results := [.lit (.bool true)], args := [d1, d2, d3] }
  | _ => none }
def fnNeverRow : OpenClaim := { program := "ytcjklacfoldaoaagreat", sum := "f4ac1e266c6827dfbfb1fbc937e4d4baffad679a40a8922b9528a35b160908d1", func := "loop.example/pub-g01518/laws.FnNever", spec := "fnNever", unfollowed := true, recurses := true, apart := false }
def FnNeverSaid : Prop := fnNeverRow.holds Tryz.pinned (OpenSpec.ofChange fnNeverSpec)

/-- ITS FALSE NEIGHBOUR: 'it returns false'. Refute it at one input. -/
def fnNeverWrong : ChangeSpec := { name := "fnNever", fn := fun _ => fun
  | [d1, d2, d3] => { results := [.lit (.bool false)], args := [d1, d2, d3] }
  | _ => none }
def FnNeverWrongFalsely : Prop := fnNeverRow.holds Tryz.pinned (OpenSpec.ofChange fnNeverWrong)

/-- 'laws.FnRollingOne': WHATEVER THE INPUT: true; the input reads as it did. -/
def fnRollingOneSpec : ChangeSpec := { name := "fnRollingOne", fn := fun _ => fun
  | [d1, d2, d3] => { results := [.lit (.bool true)], args := [d1, d2, d3] }
  | _ => none }
def fnRollingOneRow : OpenClaim := { program := "ytcjklacfoldaoaagreat", sum := "f4ac1e266c6827dfbfb1fbc937e4d4baffad679a40a8922b9528a35b160908d1", func := "loop.example/pub-g01518/laws.FnRollingOne", spec := "fnRollingOne", unfollowed := true, recurses := true, apart := false }
def FnRollingOneSaid : Prop := fnRollingOneRow.holds Tryz.pinned (OpenSpec.ofChange fnRollingOneSpec)

/-- ITS FALSE NEIGHBOUR: 'it returns false'. Refute it at one input. -/
def fnRollingOneWrong : ChangeSpec := { name := "fnRollingOne", fn := fun _ => fun
  | [d1, d2, d3] => { results := [.lit (.bool false)], args := [d1, d2, d3] }
  | _ => none }
def FnRollingOneWrongFalsely : Prop := fnRollingOneRow.holds Tryz.pinned (OpenSpec.ofChange fnRollingOneWrong)

/-- 'laws.FnTwoWays': WHATEVER THE INPUT: true; the input reads as it did. -/
def fnTwoWaysSpec : ChangeSpec := { name := "fnTwoWays", fn := fun _ => fun
  | [d1, d2, d3] => { results := [.lit (.bool true)], args := [d1, d2, d3] }
  | _ => none }
def fnTwoWaysRow : OpenClaim := { program := "ytcjklacfoldaoaagreat", sum := "f4ac1e266c6827dfbfb1fbc937e4d4baffad679a40a8922b9528a35b160908d1", func := "loop.example/pub-g01518/laws.FnTwoWays", spec := "fnTwoWays", unfollowed := true, recurses := true, apart := false }
def FnTwoWaysSaid : Prop := fnTwoWaysRow.holds Tryz.pinned (OpenSpec.ofChange fnTwoWaysSpec)

/-- ITS FALSE NEIGHBOUR: 'it returns false'. Refute it at one input. -/
def fnTwoWaysWrong : ChangeSpec := { name := "fnTwoWays", fn := fun _ => fun
  | [d1, d2, d3] => { results := [.lit (.bool false)], args := [d1, d2, d3] }
  | _ => none }
def FnTwoWaysWrongFalsely : Prop := fnTwoWaysRow.holds Tryz.pinned (OpenSpec.ofChange fnTwoWaysWrong)

/- THE SECOND FORM. 'bulk': how many values and letters a reading holds, each counted each time it is reached (what is shared counts as often as it is met; a slice's spare places count too). A statement '..UptoSaid' is the law's where the arguments, and the package variables that the reading takes, are together of bulk at most 1048576: NARROWER than '..Said'. Prove '..Said' where nothing that the law and all that it calls make is longer than what came in: it says more and counts as full. Else prove '..UptoSaid'. A law counts once. -/
mutual
def uptoBulk {H : Type} : DataW H → Nat
  | .lit (.string bytes) => bytes.length + 1
  | .lit _ => 1
  | .nil => 1
  | .ptr d => uptoBulk d + 1
  | .slice elems spare => uptoBulkAll elems + uptoBulkAll spare + 1
  | .agg parts => uptoBulkAll parts + 1
  | .iface _ d => uptoBulk d + 1
  | .map entries => uptoBulkEntries entries + 1
  | .held _ => 1
def uptoBulkAll {H : Type} : List (DataW H) → Nat
  | [] => 0
  | d :: r => uptoBulk d + uptoBulkAll r
def uptoBulkEntries {H : Type} : List (Lit × DataW H) → Nat
  | [] => 0
  | x :: r => uptoBulkEntry x + uptoBulkEntries r
def uptoBulkEntry {H : Type} : Lit × DataW H → Nat
  | (.string bytes, d) => bytes.length + uptoBulk d + 1
  | (_, d) => uptoBulk d + 1
 end
def uptoSmall : (H : Type) → List (DataW H) → Bool := fun _ ds => decide (uptoBulkAll ds ≤ 1048576)
def OpenSpec.upto (s : _root_.Go.ChangeSpec) : _root_.Go.OpenSpec := { _root_.Go.OpenSpec.ofChange s with cond := some uptoSmall }

/-- 'laws.FnAlways', WHERE WHAT IT READS IS OF BULK AT MOST 1048576: true; the input reads as it did. -/
def fnAlwaysUptoRow : OpenClaim := { program := "ytcjklacfoldaoaagreat", sum := "f4ac1e266c6827dfbfb1fbc937e4d4baffad679a40a8922b9528a35b160908d1", func := "loop.example/pub-g01518/laws.FnAlways", spec := "fnAlways", unfollowed := true, recurses := true, apart := false, narrowed := true }
def FnAlwaysUptoSaid : Prop := fnAlwaysUptoRow.holds Tryz.pinned (OpenSpec.upto fnAlwaysSpec)

/-- 'laws.FnCalls', WHERE WHAT IT READS IS OF BULK AT MOST 1048576: true; the input reads as it did. -/
def fnCallsUptoRow : OpenClaim := { program := "ytcjklacfoldaoaagreat", sum := "f4ac1e266c6827dfbfb1fbc937e4d4baffad679a40a8922b9528a35b160908d1", func := "loop.example/pub-g01518/laws.FnCalls", spec := "fnCalls", unfollowed := true, recurses := true, apart := false, narrowed := true }
def FnCallsUptoSaid : Prop := fnCallsUptoRow.holds Tryz.pinned (OpenSpec.upto fnCallsSpec)

/-- 'laws.FnNever', WHERE WHAT IT READS IS OF BULK AT MOST 1048576: true; the input reads as it did. -/
def fnNeverUptoRow : OpenClaim := { program := "ytcjklacfoldaoaagreat", sum := "f4ac1e266c6827dfbfb1fbc937e4d4baffad679a40a8922b9528a35b160908d1", func := "loop.example/pub-g01518/laws.FnNever", spec := "fnNever", unfollowed := true, recurses := true, apart := false, narrowed := true }
def FnNeverUptoSaid : Prop := fnNeverUptoRow.holds Tryz.pinned (OpenSpec.upto fnNeverSpec)

/-- 'laws.FnRollingOne', WHERE WHAT IT READS IS OF BULK AT MOST 1048576: true; the input reads as it did. -/
def fnRollingOneUptoRow : OpenClaim := { program := "ytcjklacfoldaoaagreat", sum := "f4ac1e266c6827dfbfb1fbc937e4d4baffad679a40a8922b9528a35b160908d1", func := "loop.example/pub-g01518/laws.FnRollingOne", spec := "fnRollingOne", unfollowed := true, recurses := true, apart := false, narrowed := true }
def FnRollingOneUptoSaid : Prop := fnRollingOneUptoRow.holds Tryz.pinned (OpenSpec.upto fnRollingOneSpec)

/-- 'laws.FnTwoWays', WHERE WHAT IT READS IS OF BULK AT MOST 1048576: true; the input reads as it did. -/
def fnTwoWaysUptoRow : OpenClaim := { program := "ytcjklacfoldaoaagreat", sum := "f4ac1e266c6827dfbfb1fbc937e4d4baffad679a40a8922b9528a35b160908d1", func := "loop.example/pub-g01518/laws.FnTwoWays", spec := "fnTwoWays", unfollowed := true, recurses := true, apart := false, narrowed := true }
def FnTwoWaysUptoSaid : Prop := fnTwoWaysUptoRow.holds Tryz.pinned (OpenSpec.upto fnTwoWaysSpec)

end Rows
end Go.Proofs.YtcjklacfoldaoaaGreat
