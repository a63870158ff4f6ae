/-
  No cell of these rows narrows 'for every input' (looked for: loops, veiled, ifaces, maps, wideKeys, modest, calm, conditions, laid).
  DERIVED. THE GIVEN ROWS OF THIS SEAT. 13 by the template 'for every input the law returns true; each argument reads behind the call as it read before'; 0 by the template 'total and deterministic' (their statements: YtcjklacfoldaoaaTotals.lean).
  GIVEN WITH THE SEED: the statements are not yours to turn. If you find one false, say at which input.
  Laid BY PROGRAM, IN A SANDBOX (cutbox-rows.mjs): the forced cells as the released guide's own fill.sh prints them over the translation 6195b4dfc585c2ef… (all of the seat's roots in one cut). By AI agents, Wed Nov 11 2026. No macro, syntax, notation, axiom, sorry.
-/
import Derived.Test.YtcjklacfoldaoaaChecked
import GoSem.Claim
import GoSem.ClaimJoined
import GoSem.ClaimMapViews
import Derived.JoinedTies
import Derived.KernelRfl
namespace Go.Proofs.Ytcjklacfoldaoaa
/- THE CELL 'sum', in the pinned program and in every row, IS THE sha256 OF THE DUMP (.gsa) THAT YtcjklacfoldaoaaProg.lean LOADS. Nothing in Lean hashes anything: it is a label: what it is worth is what the hold of that sum in a sandbox is worth. -/
noncomputable def Try.pinned : Pinned := { name := "ytcjklacfoldaoaa", sum := "6195b4dfc585c2efc691bc5e597bc2909e53a39bdf22d55327a44d9a263ac7a1", checked := Try.checked }
namespace Rows
def none {H : Type} : Left H := { results := [], args := [] }

/-- 'laws.FnChanges': WHATEVER THE INPUT: true; the input reads as it did. -/
def fnChangesSpec : ChangeSpec := { name := "fnChanges", fn := fun _ => fun
  | [d1, d2, d3] => { results := [.lit (.bool true)], args := [d1, d2, d3] }
  | _ => none }
def fnChangesRow : OpenClaim := { program := "ytcjklacfoldaoaa", sum := "6195b4dfc585c2efc691bc5e597bc2909e53a39bdf22d55327a44d9a263ac7a1", func := "loop.example/pub-g01518/laws.FnChanges", spec := "fnChanges", unfollowed := true, recurses := true, apart := false }
def FnChangesSaid : Prop := fnChangesRow.holds Try.pinned (OpenSpec.ofChange fnChangesSpec)

/-- ITS FALSE NEIGHBOUR: 'it returns false'. Refute it at one input. -/
def fnChangesWrong : ChangeSpec := { name := "fnChanges", fn := fun _ => fun
  | [d1, d2, d3] => { results := [.lit (.bool false)], args := [d1, d2, d3] }
  | _ => none }
def FnChangesWrongFalsely : Prop := fnChangesRow.holds Try.pinned (OpenSpec.ofChange fnChangesWrong)

/-- 'laws.FnCountsAdd': WHATEVER THE INPUT: true; the input reads as it did. -/
def fnCountsAddSpec : ChangeSpec := { name := "fnCountsAdd", fn := fun _ => fun
  | [d1, d2, d3] => { results := [.lit (.bool true)], args := [d1, d2, d3] }
  | _ => none }
def fnCountsAddRow : OpenClaim := { program := "ytcjklacfoldaoaa", sum := "6195b4dfc585c2efc691bc5e597bc2909e53a39bdf22d55327a44d9a263ac7a1", func := "loop.example/pub-g01518/laws.FnCountsAdd", spec := "fnCountsAdd", unfollowed := true, recurses := true, apart := false }
def FnCountsAddSaid : Prop := fnCountsAddRow.holds Try.pinned (OpenSpec.ofChange fnCountsAddSpec)

/-- ITS FALSE NEIGHBOUR: 'it returns false'. Refute it at one input. -/
def fnCountsAddWrong : ChangeSpec := { name := "fnCountsAdd", fn := fun _ => fun
  | [d1, d2, d3] => { results := [.lit (.bool false)], args := [d1, d2, d3] }
  | _ => none }
def FnCountsAddWrongFalsely : Prop := fnCountsAddRow.holds Try.pinned (OpenSpec.ofChange fnCountsAddWrong)

/-- 'laws.FnDefaults': WHATEVER THE INPUT: true; the input reads as it did. -/
def fnDefaultsSpec : ChangeSpec := { name := "fnDefaults", fn := fun _ => fun
  | [d1, d2, d3] => { results := [.lit (.bool true)], args := [d1, d2, d3] }
  | _ => none }
def fnDefaultsRow : OpenClaim := { program := "ytcjklacfoldaoaa", sum := "6195b4dfc585c2efc691bc5e597bc2909e53a39bdf22d55327a44d9a263ac7a1", func := "loop.example/pub-g01518/laws.FnDefaults", spec := "fnDefaults", unfollowed := true, recurses := true, apart := false }
def FnDefaultsSaid : Prop := fnDefaultsRow.holds Try.pinned (OpenSpec.ofChange fnDefaultsSpec)

/-- ITS FALSE NEIGHBOUR: 'it returns false'. Refute it at one input. -/
def fnDefaultsWrong : ChangeSpec := { name := "fnDefaults", fn := fun _ => fun
  | [d1, d2, d3] => { results := [.lit (.bool false)], args := [d1, d2, d3] }
  | _ => none }
def FnDefaultsWrongFalsely : Prop := fnDefaultsRow.holds Try.pinned (OpenSpec.ofChange fnDefaultsWrong)

/-- 'laws.FnLate': WHATEVER THE INPUT: true; the input reads as it did. -/
def fnLateSpec : ChangeSpec := { name := "fnLate", fn := fun _ => fun
  | [d1, d2, d3, d4, d5] => { results := [.lit (.bool true)], args := [d1, d2, d3, d4, d5] }
  | _ => none }
def fnLateRow : OpenClaim := { program := "ytcjklacfoldaoaa", sum := "6195b4dfc585c2efc691bc5e597bc2909e53a39bdf22d55327a44d9a263ac7a1", func := "loop.example/pub-g01518/laws.FnLate", spec := "fnLate", unfollowed := true, recurses := true, apart := false }
def FnLateSaid : Prop := fnLateRow.holds Try.pinned (OpenSpec.ofChange fnLateSpec)

/-- ITS FALSE NEIGHBOUR: 'it returns false'. Refute it at one input. -/
def fnLateWrong : ChangeSpec := { name := "fnLate", fn := fun _ => fun
  | [d1, d2, d3, d4, d5] => { results := [.lit (.bool false)], args := [d1, d2, d3, d4, d5] }
  | _ => none }
def FnLateWrongFalsely : Prop := fnLateRow.holds Try.pinned (OpenSpec.ofChange fnLateWrong)

/-- 'laws.FnNoTimes': WHATEVER THE INPUT: true; the input reads as it did. -/
def fnNoTimesSpec : ChangeSpec := { name := "fnNoTimes", fn := fun _ => fun
  | [d1, d2, d3, d4, d5] => { results := [.lit (.bool true)], args := [d1, d2, d3, d4, d5] }
  | _ => none }
def fnNoTimesRow : OpenClaim := { program := "ytcjklacfoldaoaa", sum := "6195b4dfc585c2efc691bc5e597bc2909e53a39bdf22d55327a44d9a263ac7a1", func := "loop.example/pub-g01518/laws.FnNoTimes", spec := "fnNoTimes", unfollowed := true, recurses := true, apart := false }
def FnNoTimesSaid : Prop := fnNoTimesRow.holds Try.pinned (OpenSpec.ofChange fnNoTimesSpec)

/-- ITS FALSE NEIGHBOUR: 'it returns false'. Refute it at one input. -/
def fnNoTimesWrong : ChangeSpec := { name := "fnNoTimes", fn := fun _ => fun
  | [d1, d2, d3, d4, d5] => { results := [.lit (.bool false)], args := [d1, d2, d3, d4, d5] }
  | _ => none }
def FnNoTimesWrongFalsely : Prop := fnNoTimesRow.holds Try.pinned (OpenSpec.ofChange fnNoTimesWrong)

/-- 'laws.FnScale': WHATEVER THE INPUT: true; the input reads as it did. -/
def fnScaleSpec : ChangeSpec := { name := "fnScale", fn := fun _ => fun
  | [d1, d2, d3, d4] => { results := [.lit (.bool true)], args := [d1, d2, d3, d4] }
  | _ => none }
def fnScaleRow : OpenClaim := { program := "ytcjklacfoldaoaa", sum := "6195b4dfc585c2efc691bc5e597bc2909e53a39bdf22d55327a44d9a263ac7a1", func := "loop.example/pub-g01518/laws.FnScale", spec := "fnScale", unfollowed := true, recurses := true, apart := false }
def FnScaleSaid : Prop := fnScaleRow.holds Try.pinned (OpenSpec.ofChange fnScaleSpec)

/-- ITS FALSE NEIGHBOUR: 'it returns false'. Refute it at one input. -/
def fnScaleWrong : ChangeSpec := { name := "fnScale", fn := fun _ => fun
  | [d1, d2, d3, d4] => { results := [.lit (.bool false)], args := [d1, d2, d3, d4] }
  | _ => none }
def FnScaleWrongFalsely : Prop := fnScaleRow.holds Try.pinned (OpenSpec.ofChange fnScaleWrong)

/-- 'laws.FnScript': WHATEVER THE INPUT: true; the input reads as it did. -/
def fnScriptSpec : ChangeSpec := { name := "fnScript", fn := fun _ => fun
  | [d1, d2, d3] => { results := [.lit (.bool true)], args := [d1, d2, d3] }
  | _ => none }
def fnScriptRow : OpenClaim := { program := "ytcjklacfoldaoaa", sum := "6195b4dfc585c2efc691bc5e597bc2909e53a39bdf22d55327a44d9a263ac7a1", func := "loop.example/pub-g01518/laws.FnScript", spec := "fnScript", unfollowed := true, recurses := true, apart := false }
def FnScriptSaid : Prop := fnScriptRow.holds Try.pinned (OpenSpec.ofChange fnScriptSpec)

/-- ITS FALSE NEIGHBOUR: 'it returns false'. Refute it at one input. -/
def fnScriptWrong : ChangeSpec := { name := "fnScript", fn := fun _ => fun
  | [d1, d2, d3] => { results := [.lit (.bool false)], args := [d1, d2, d3] }
  | _ => none }
def FnScriptWrongFalsely : Prop := fnScriptRow.holds Try.pinned (OpenSpec.ofChange fnScriptWrong)

/-- 'laws.FnShift': WHATEVER THE INPUT: true; the input reads as it did. -/
def fnShiftSpec : ChangeSpec := { name := "fnShift", fn := fun _ => fun
  | [d1, d2, d3, d4] => { results := [.lit (.bool true)], args := [d1, d2, d3, d4] }
  | _ => none }
def fnShiftRow : OpenClaim := { program := "ytcjklacfoldaoaa", sum := "6195b4dfc585c2efc691bc5e597bc2909e53a39bdf22d55327a44d9a263ac7a1", func := "loop.example/pub-g01518/laws.FnShift", spec := "fnShift", unfollowed := true, recurses := true, apart := false }
def FnShiftSaid : Prop := fnShiftRow.holds Try.pinned (OpenSpec.ofChange fnShiftSpec)

/-- ITS FALSE NEIGHBOUR: 'it returns false'. Refute it at one input. -/
def fnShiftWrong : ChangeSpec := { name := "fnShift", fn := fun _ => fun
  | [d1, d2, d3, d4] => { results := [.lit (.bool false)], args := [d1, d2, d3, d4] }
  | _ => none }
def FnShiftWrongFalsely : Prop := fnShiftRow.holds Try.pinned (OpenSpec.ofChange fnShiftWrong)

/-- 'laws.FnName': WHATEVER THE INPUT: true; the input reads as it did. -/
def fnNameSpec : ChangeSpec := { name := "fnName", fn := fun _ => fun
  | [d] => { results := [.lit (.bool true)], args := [d] }
  | _ => none }
def fnNameRow : OpenClaim := { program := "ytcjklacfoldaoaa", sum := "6195b4dfc585c2efc691bc5e597bc2909e53a39bdf22d55327a44d9a263ac7a1", func := "loop.example/pub-g01518/laws.FnName", spec := "fnName", unfollowed := true, recurses := true, apart := false }
def FnNameSaid : Prop := fnNameRow.holds Try.pinned (OpenSpec.ofChange fnNameSpec)

/-- ITS FALSE NEIGHBOUR: 'it returns false'. Refute it at one input. -/
def fnNameWrong : ChangeSpec := { name := "fnName", fn := fun _ => fun
  | [d] => { results := [.lit (.bool false)], args := [d] }
  | _ => none }
def FnNameWrongFalsely : Prop := fnNameRow.holds Try.pinned (OpenSpec.ofChange fnNameWrong)

/-- 'laws.FnExcludedHalf': WHATEVER THE INPUT: true; the input reads as it did. -/
def fnExcludedHalfSpec : ChangeSpec := { name := "fnExcludedHalf", fn := fun _ => fun
  | [d1, d2] => { results := [.lit (.bool true)], args := [d1, d2] }
  | _ => none }
def fnExcludedHalfRow : OpenClaim := { program := "ytcjklacfoldaoaa", sum := "6195b4dfc585c2efc691bc5e597bc2909e53a39bdf22d55327a44d9a263ac7a1", func := "loop.example/pub-g01518/laws.FnExcludedHalf", spec := "fnExcludedHalf", unfollowed := true, recurses := true, apart := false }
def FnExcludedHalfSaid : Prop := fnExcludedHalfRow.holds Try.pinned (OpenSpec.ofChange fnExcludedHalfSpec)

/-- ITS FALSE NEIGHBOUR: 'it returns false'. Refute it at one input. -/
def fnExcludedHalfWrong : ChangeSpec := { name := "fnExcludedHalf", fn := fun _ => fun
  | [d1, d2] => { results := [.lit (.bool false)], args := [d1, d2] }
  | _ => none }
def FnExcludedHalfWrongFalsely : Prop := fnExcludedHalfRow.holds Try.pinned (OpenSpec.ofChange fnExcludedHalfWrong)

/-- 'laws.FnRolling': WHATEVER THE INPUT: true; the input reads as it did. -/
def fnRollingSpec : ChangeSpec := { name := "fnRolling", fn := fun _ => fun
  | [d1, d2, d3, d4] => { results := [.lit (.bool true)], args := [d1, d2, d3, d4] }
  | _ => none }
def fnRollingRow : OpenClaim := { program := "ytcjklacfoldaoaa", sum := "6195b4dfc585c2efc691bc5e597bc2909e53a39bdf22d55327a44d9a263ac7a1", func := "loop.example/pub-g01518/laws.FnRolling", spec := "fnRolling", unfollowed := true, recurses := true, apart := false }
def FnRollingSaid : Prop := fnRollingRow.holds Try.pinned (OpenSpec.ofChange fnRollingSpec)

/-- ITS FALSE NEIGHBOUR: 'it returns false'. Refute it at one input. -/
def fnRollingWrong : ChangeSpec := { name := "fnRolling", fn := fun _ => fun
  | [d1, d2, d3, d4] => { results := [.lit (.bool false)], args := [d1, d2, d3, d4] }
  | _ => none }
def FnRollingWrongFalsely : Prop := fnRollingRow.holds Try.pinned (OpenSpec.ofChange fnRollingWrong)

/-- 'laws.FnRollingRounded': WHATEVER THE INPUT: true; the input reads as it did. -/
def fnRollingRoundedSpec : ChangeSpec := { name := "fnRollingRounded", fn := fun _ => fun
  | [d1, d2, d3, d4, d5] => { results := [.lit (.bool true)], args := [d1, d2, d3, d4, d5] }
  | _ => none }
def fnRollingRoundedRow : OpenClaim := { program := "ytcjklacfoldaoaa", sum := "6195b4dfc585c2efc691bc5e597bc2909e53a39bdf22d55327a44d9a263ac7a1", func := "loop.example/pub-g01518/laws.FnRollingRounded", spec := "fnRollingRounded", unfollowed := true, recurses := true, apart := false }
def FnRollingRoundedSaid : Prop := fnRollingRoundedRow.holds Try.pinned (OpenSpec.ofChange fnRollingRoundedSpec)

/-- ITS FALSE NEIGHBOUR: 'it returns false'. Refute it at one input. -/
def fnRollingRoundedWrong : ChangeSpec := { name := "fnRollingRounded", fn := fun _ => fun
  | [d1, d2, d3, d4, d5] => { results := [.lit (.bool false)], args := [d1, d2, d3, d4, d5] }
  | _ => none }
def FnRollingRoundedWrongFalsely : Prop := fnRollingRoundedRow.holds Try.pinned (OpenSpec.ofChange fnRollingRoundedWrong)

/-- 'laws.FnRollingTrip': WHATEVER THE INPUT: true; the input reads as it did. -/
def fnRollingTripSpec : ChangeSpec := { name := "fnRollingTrip", fn := fun _ => fun
  | [d1, d2, d3, d4, d5] => { results := [.lit (.bool true)], args := [d1, d2, d3, d4, d5] }
  | _ => none }
def fnRollingTripRow : OpenClaim := { program := "ytcjklacfoldaoaa", sum := "6195b4dfc585c2efc691bc5e597bc2909e53a39bdf22d55327a44d9a263ac7a1", func := "loop.example/pub-g01518/laws.FnRollingTrip", spec := "fnRollingTrip", unfollowed := true, recurses := true, apart := false }
def FnRollingTripSaid : Prop := fnRollingTripRow.holds Try.pinned (OpenSpec.ofChange fnRollingTripSpec)

/-- ITS FALSE NEIGHBOUR: 'it returns false'. Refute it at one input. -/
def fnRollingTripWrong : ChangeSpec := { name := "fnRollingTrip", fn := fun _ => fun
  | [d1, d2, d3, d4, d5] => { results := [.lit (.bool false)], args := [d1, d2, d3, d4, d5] }
  | _ => none }
def FnRollingTripWrongFalsely : Prop := fnRollingTripRow.holds Try.pinned (OpenSpec.ofChange fnRollingTripWrong)

/- THE SECOND FORM. 'bulk': how many values and letters a reading holds, each counted each time it is reached (what is shared counts as often as it is met; a slice's spare places count too). A statement '..UptoSaid' is the law's where the arguments, and the package variables that the reading takes, are together of bulk at most 1048576: NARROWER than '..Said'. Prove '..Said' where nothing that the law and all that it calls make is longer than what came in: it says more and counts as full. Else prove '..UptoSaid'. A law counts once. -/
mutual
def uptoBulk {H : Type} : DataW H → Nat
  | .lit (.string bytes) => bytes.length + 1
  | .lit _ => 1
  | .nil => 1
  | .ptr d => uptoBulk d + 1
  | .slice elems spare => uptoBulkAll elems + uptoBulkAll spare + 1
  | .agg parts => uptoBulkAll parts + 1
  | .iface _ d => uptoBulk d + 1
  | .map entries => uptoBulkEntries entries + 1
  | .held _ => 1
def uptoBulkAll {H : Type} : List (DataW H) → Nat
  | [] => 0
  | d :: r => uptoBulk d + uptoBulkAll r
def uptoBulkEntries {H : Type} : List (Lit × DataW H) → Nat
  | [] => 0
  | x :: r => uptoBulkEntry x + uptoBulkEntries r
def uptoBulkEntry {H : Type} : Lit × DataW H → Nat
  | (.string bytes, d) => bytes.length + uptoBulk d + 1
  | (_, d) => uptoBulk d + 1
 end
def uptoSmall : (H : Type) → List (DataW H) → Bool := fun _ ds => decide (uptoBulkAll ds ≤ 1048576)
def OpenSpec.upto (s : _root_.Go.ChangeSpec) : _root_.Go.OpenSpec := { _root_.Go.OpenSpec.ofChange s with cond := some uptoSmall }

/-- 'laws.FnChanges', WHERE WHAT IT READS IS OF BULK AT MOST 1048576: true; the input reads as it did. -/
def fnChangesUptoRow : OpenClaim := { program := "ytcjklacfoldaoaa", sum := "6195b4dfc585c2efc691bc5e597bc2909e53a39bdf22d55327a44d9a263ac7a1", func := "loop.example/pub-g01518/laws.FnChanges", spec := "fnChanges", unfollowed := true, recurses := true, apart := false, narrowed := true }
def FnChangesUptoSaid : Prop := fnChangesUptoRow.holds Try.pinned (OpenSpec.upto fnChangesSpec)

/-- 'laws.FnCountsAdd', WHERE WHAT IT READS IS OF BULK AT MOST 1048576: true; the input reads as it did. -/
def fnCountsAddUptoRow : OpenClaim := { program := "ytcjklacfoldaoaa", sum := "6195b4dfc585c2efc691bc5e597bc2909e53a39bdf22d55327a44d9a263ac7a1", func := "loop.example/pub-g01518/laws.FnCountsAdd", spec := "fnCountsAdd", unfollowed := true, recurses := true, apart := false, narrowed := true }
def FnCountsAddUptoSaid : Prop := fnCountsAddUptoRow.holds Try.pinned (OpenSpec.upto fnCountsAddSpec)

/-- 'laws.FnDefaults', WHERE WHAT IT READS IS OF BULK AT MOST 1048576: true; the input reads as it did. -/
def fnDefaultsUptoRow : OpenClaim := { program := "ytcjklacfoldaoaa", sum := "6195b4dfc585c2efc691bc5e597bc2909e53a39bdf22d55327a44d9a263ac7a1", func := "loop.example/pub-g01518/laws.FnDefaults", spec := "fnDefaults", unfollowed := true, recurses := true, apart := false, narrowed := true }
def FnDefaultsUptoSaid : Prop := fnDefaultsUptoRow.holds Try.pinned (OpenSpec.upto fnDefaultsSpec)

/-- 'laws.FnLate', WHERE WHAT IT READS IS OF BULK AT MOST 1048576: true; the input reads as it did. -/
def fnLateUptoRow : OpenClaim := { program := "ytcjklacfoldaoaa", sum := "6195b4dfc585c2efc691bc5e597bc2909e53a39bdf22d55327a44d9a263ac7a1", func := "loop.example/pub-g01518/laws.FnLate", spec := "fnLate", unfollowed := true, recurses := true, apart := false, narrowed := true }
def FnLateUptoSaid : Prop := fnLateUptoRow.holds Try.pinned (OpenSpec.upto fnLateSpec)

/-- 'laws.FnNoTimes', WHERE WHAT IT READS IS OF BULK AT MOST 1048576: true; the input reads as it did. -/
def fnNoTimesUptoRow : OpenClaim := { program := "ytcjklacfoldaoaa", sum := "6195b4dfc585c2efc691bc5e597bc2909e53a39bdf22d55327a44d9a263ac7a1", func := "loop.example/pub-g01518/laws.FnNoTimes", spec := "fnNoTimes", unfollowed := true, recurses := true, apart := false, narrowed := true }
def FnNoTimesUptoSaid : Prop := fnNoTimesUptoRow.holds Try.pinned (OpenSpec.upto fnNoTimesSpec)

/-- 'laws.FnScale', WHERE WHAT IT READS IS OF BULK AT MOST 1048576: true; the input reads as it did. -/
def fnScaleUptoRow : OpenClaim := { program := "ytcjklacfoldaoaa", sum := "6195b4dfc585c2efc691bc5e597bc2909e53a39bdf22d55327a44d9a263ac7a1", func := "loop.example/pub-g01518/laws.FnScale", spec := "fnScale", unfollowed := true, recurses := true, apart := false, narrowed := true }
def FnScaleUptoSaid : Prop := fnScaleUptoRow.holds Try.pinned (OpenSpec.upto fnScaleSpec)

/-- 'laws.FnScript', WHERE WHAT IT READS IS OF BULK AT MOST 1048576: true; the input reads as it did. -/
def fnScriptUptoRow : OpenClaim := { program := "ytcjklacfoldaoaa", sum := "6195b4dfc585c2efc691bc5e597bc2909e53a39bdf22d55327a44d9a263ac7a1", func := "loop.example/pub-g01518/laws.FnScript", spec := "fnScript", unfollowed := true, recurses := true, apart := false, narrowed := true }
def FnScriptUptoSaid : Prop := fnScriptUptoRow.holds Try.pinned (OpenSpec.upto fnScriptSpec)

/-- 'laws.FnShift', WHERE WHAT IT READS IS OF BULK AT MOST 1048576: true; the input reads as it did. -/
def fnShiftUptoRow : OpenClaim := { program := "ytcjklacfoldaoaa", sum := "6195b4dfc585c2efc691bc5e597bc2909e53a39bdf22d55327a44d9a263ac7a1", func := "loop.example/pub-g01518/laws.FnShift", spec := "fnShift", unfollowed := true, recurses := true, apart := false, narrowed := true }
def FnShiftUptoSaid : Prop := fnShiftUptoRow.holds Try.pinned (OpenSpec.upto fnShiftSpec)

/-- 'laws.FnName', WHERE WHAT IT READS IS OF BULK AT MOST 1048576: true; the input reads as it did. -/
def fnNameUptoRow : OpenClaim := { program := "ytcjklacfoldaoaa", sum := "6195b4dfc585c2efc691bc5e597bc2909e53a39bdf22d55327a44d9a263ac7a1", func := "loop.example/pub-g01518/laws.FnName", spec := "fnName", unfollowed := true, recurses := true, apart := false, narrowed := true }
def FnNameUptoSaid : Prop := fnNameUptoRow.holds Try.pinned (OpenSpec.upto fnNameSpec)

/-- 'laws.FnExcludedHalf', WHERE WHAT IT READS IS OF BULK AT MOST 1048576: true; the input reads as it did. -/
def fnExcludedHalfUptoRow : OpenClaim := { program := "ytcjklacfoldaoaa", sum := "6195b4dfc585c2efc691bc5e597bc2909e53a39bdf22d55327a44d9a263ac7a1", func := "loop.example/pub-g01518/laws.FnExcludedHalf", spec := "fnExcludedHalf", unfollowed := true, recurses := true, apart := false, narrowed := true }
def FnExcludedHalfUptoSaid : Prop := fnExcludedHalfUptoRow.holds Try.pinned (OpenSpec.upto fnExcludedHalfSpec)

/-- 'laws.FnRolling', WHERE WHAT IT READS IS OF BULK AT MOST 1048576: true; the input reads as it did. -/
def fnRollingUptoRow : OpenClaim := { program := "ytcjklacfoldaoaa", sum := "6195b4dfc585c2efc691bc5e597bc2909e53a39bdf22d55327a44d9a263ac7a1", func := "loop.example/pub-g01518/laws.FnRolling", spec := "fnRolling", unfollowed := true, recurses := true, apart := false, narrowed := true }
def FnRollingUptoSaid : Prop := fnRollingUptoRow.holds Try.pinned (OpenSpec.upto fnRollingSpec)

/-- 'laws.FnRollingRounded', WHERE WHAT IT READS IS OF BULK AT MOST 1048576: true; the input reads as it did. -/
def fnRollingRoundedUptoRow : OpenClaim := { program := "ytcjklacfoldaoaa", sum := "6195b4dfc585c2efc691bc5e597bc2909e53a39bdf22d55327a44d9a263ac7a1", func := "loop.example/pub-g01518/laws.FnRollingRounded", spec := "fnRollingRounded", unfollowed := true, recurses := true, apart := false, narrowed := true }
def FnRollingRoundedUptoSaid : Prop := fnRollingRoundedUptoRow.holds Try.pinned (OpenSpec.upto fnRollingRoundedSpec)

/-- 'laws.FnRollingTrip', WHERE WHAT IT READS IS OF BULK AT MOST 1048576: true; the input reads as it did. -/
def fnRollingTripUptoRow : OpenClaim := { program := "ytcjklacfoldaoaa", sum := "6195b4dfc585c2efc691bc5e597bc2909e53a39bdf22d55327a44d9a263ac7a1", func := "loop.example/pub-g01518/laws.FnRollingTrip", spec := "fnRollingTrip", unfollowed := true, recurses := true, apart := false, narrowed := true }
def FnRollingTripUptoSaid : Prop := fnRollingTripUptoRow.holds Try.pinned (OpenSpec.upto fnRollingTripSpec)

end Rows
end Go.Proofs.Ytcjklacfoldaoaa
