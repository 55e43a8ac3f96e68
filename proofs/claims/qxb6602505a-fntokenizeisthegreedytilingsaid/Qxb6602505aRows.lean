/-
  No cell of these rows narrows 'for every input' (looked for: loops, veiled, ifaces, maps, wideKeys, modest, calm, conditions, laid).
  DERIVED. THE GIVEN ROWS OF THIS SEAT. 4 by the template 'for every input the law returns true; each argument reads behind the call as it read before'; 0 by the template 'total and deterministic' (their statements: Qxb6602505aTotals.lean).
  GIVEN WITH THE SEED: the statements are not yours to turn. If you find one false, say at which input.
  Laid BY PROGRAM, IN A SANDBOX (cutbox-rows.mjs): the forced cells as the released guide's own fill.sh prints them over the translation 167cd46468ea3615… (all of the seat's roots in one cut). By AI agents, Wed Nov 11 2026. No macro, syntax, notation, axiom, sorry.
-/
import Derived.Test.Qxb6602505aChecked
import GoSem.Claim
import GoSem.ClaimJoined
import GoSem.ClaimMapViews
import Derived.JoinedTies
import Derived.KernelRfl
namespace Go.Proofs.Qxb6602505a
/- THE CELL 'sum', in the pinned program and in every row, IS THE sha256 OF THE DUMP (.gsa) THAT Qxb6602505aProg.lean LOADS. Nothing in Lean hashes anything: it is a label: what it is worth is what the hold of that sum in a sandbox is worth. -/
noncomputable def Try.pinned : Pinned := { name := "qxb6602505a", sum := "167cd46468ea3615fa198bd7bad780c975e45c03c2293f69a4fae91146ef78cb", checked := Try.checked }
namespace Rows
def none {H : Type} : Left H := { results := [], args := [] }

/-- 'zzlaws_labels_b1.FnTokenizeIsTheGreedyTiling': WHATEVER THE INPUT: true; the input reads as it did. -/
def fnTokenizeIsTheGreedyTilingSpec : ChangeSpec := { name := "fnTokenizeIsTheGreedyTiling", fn := fun _ => fun
  | [d] => { results := [.lit (.bool true)], args := [d] }
  | _ => none }
def fnTokenizeIsTheGreedyTilingRow : OpenClaim := { program := "qxb6602505a", sum := "167cd46468ea3615fa198bd7bad780c975e45c03c2293f69a4fae91146ef78cb", func := "example.com/ashlar/ashlar/zzlaws_labels_b1.FnTokenizeIsTheGreedyTiling", spec := "fnTokenizeIsTheGreedyTiling", inPlace := ["internal/bytealg.IndexByteString"], apart := false }
def FnTokenizeIsTheGreedyTilingSaid : Prop := fnTokenizeIsTheGreedyTilingRow.holds Try.pinned (OpenSpec.ofChange fnTokenizeIsTheGreedyTilingSpec)

/-- ITS FALSE NEIGHBOUR: 'it returns false'. Refute it at one input. -/
def fnTokenizeIsTheGreedyTilingWrong : ChangeSpec := { name := "fnTokenizeIsTheGreedyTiling", fn := fun _ => fun
  | [d] => { results := [.lit (.bool false)], args := [d] }
  | _ => none }
def FnTokenizeIsTheGreedyTilingWrongFalsely : Prop := fnTokenizeIsTheGreedyTilingRow.holds Try.pinned (OpenSpec.ofChange fnTokenizeIsTheGreedyTilingWrong)

/-- 'zzlaws_labels_b1.FnTokenizeRespacedIsAFixedPoint': WHATEVER THE INPUT: true; the input reads as it did. -/
def fnTokenizeRespacedIsAFixedPointSpec : ChangeSpec := { name := "fnTokenizeRespacedIsAFixedPoint", fn := fun _ => fun
  | [d] => { results := [.lit (.bool true)], args := [d] }
  | _ => none }
def fnTokenizeRespacedIsAFixedPointRow : OpenClaim := { program := "qxb6602505a", sum := "167cd46468ea3615fa198bd7bad780c975e45c03c2293f69a4fae91146ef78cb", func := "example.com/ashlar/ashlar/zzlaws_labels_b1.FnTokenizeRespacedIsAFixedPoint", spec := "fnTokenizeRespacedIsAFixedPoint", inPlace := ["internal/bytealg.IndexByteString"], apart := false }
def FnTokenizeRespacedIsAFixedPointSaid : Prop := fnTokenizeRespacedIsAFixedPointRow.holds Try.pinned (OpenSpec.ofChange fnTokenizeRespacedIsAFixedPointSpec)

/-- ITS FALSE NEIGHBOUR: 'it returns false'. Refute it at one input. -/
def fnTokenizeRespacedIsAFixedPointWrong : ChangeSpec := { name := "fnTokenizeRespacedIsAFixedPoint", fn := fun _ => fun
  | [d] => { results := [.lit (.bool false)], args := [d] }
  | _ => none }
def FnTokenizeRespacedIsAFixedPointWrongFalsely : Prop := fnTokenizeRespacedIsAFixedPointRow.holds Try.pinned (OpenSpec.ofChange fnTokenizeRespacedIsAFixedPointWrong)

/-- 'zzlaws_labels_b1.FnTokenizeSplitsAtASpace': WHATEVER THE INPUT: true; the input reads as it did. -/
def fnTokenizeSplitsAtASpaceSpec : ChangeSpec := { name := "fnTokenizeSplitsAtASpace", fn := fun _ => fun
  | [d1, d2] => { results := [.lit (.bool true)], args := [d1, d2] }
  | _ => none }
def fnTokenizeSplitsAtASpaceRow : OpenClaim := { program := "qxb6602505a", sum := "167cd46468ea3615fa198bd7bad780c975e45c03c2293f69a4fae91146ef78cb", func := "example.com/ashlar/ashlar/zzlaws_labels_b1.FnTokenizeSplitsAtASpace", spec := "fnTokenizeSplitsAtASpace", inPlace := ["internal/bytealg.IndexByteString"], apart := false }
def FnTokenizeSplitsAtASpaceSaid : Prop := fnTokenizeSplitsAtASpaceRow.holds Try.pinned (OpenSpec.ofChange fnTokenizeSplitsAtASpaceSpec)

/-- ITS FALSE NEIGHBOUR: 'it returns false'. Refute it at one input. -/
def fnTokenizeSplitsAtASpaceWrong : ChangeSpec := { name := "fnTokenizeSplitsAtASpace", fn := fun _ => fun
  | [d1, d2] => { results := [.lit (.bool false)], args := [d1, d2] }
  | _ => none }
def FnTokenizeSplitsAtASpaceWrongFalsely : Prop := fnTokenizeSplitsAtASpaceRow.holds Try.pinned (OpenSpec.ofChange fnTokenizeSplitsAtASpaceWrong)

/-- 'zzlaws_labels_b1.FnSymbolReadsAtMostTwoBytes': WHATEVER THE INPUT: true; the input reads as it did. -/
def fnSymbolReadsAtMostTwoBytesSpec : ChangeSpec := { name := "fnSymbolReadsAtMostTwoBytes", fn := fun _ => fun
  | [d1, d2] => { results := [.lit (.bool true)], args := [d1, d2] }
  | _ => none }
def fnSymbolReadsAtMostTwoBytesRow : OpenClaim := { program := "qxb6602505a", sum := "167cd46468ea3615fa198bd7bad780c975e45c03c2293f69a4fae91146ef78cb", func := "example.com/ashlar/ashlar/zzlaws_labels_b1.FnSymbolReadsAtMostTwoBytes", spec := "fnSymbolReadsAtMostTwoBytes", apart := false }
def FnSymbolReadsAtMostTwoBytesSaid : Prop := fnSymbolReadsAtMostTwoBytesRow.holds Try.pinned (OpenSpec.ofChange fnSymbolReadsAtMostTwoBytesSpec)

/-- ITS FALSE NEIGHBOUR: 'it returns false'. Refute it at one input. -/
def fnSymbolReadsAtMostTwoBytesWrong : ChangeSpec := { name := "fnSymbolReadsAtMostTwoBytes", fn := fun _ => fun
  | [d1, d2] => { results := [.lit (.bool false)], args := [d1, d2] }
  | _ => none }
def FnSymbolReadsAtMostTwoBytesWrongFalsely : Prop := fnSymbolReadsAtMostTwoBytesRow.holds Try.pinned (OpenSpec.ofChange fnSymbolReadsAtMostTwoBytesWrong)

end Rows
end Go.Proofs.Qxb6602505a
