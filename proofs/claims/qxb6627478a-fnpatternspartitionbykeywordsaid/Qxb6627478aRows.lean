/-
  No cell of these rows narrows 'for every input' (looked for: loops, veiled, ifaces, maps, wideKeys, modest, calm, conditions, laid).
  DERIVED. THE GIVEN ROWS OF THIS SEAT. 2 by the template 'for every input the law returns true; each argument reads behind the call as it read before'; 0 by the template 'total and deterministic' (their statements: Qxb6627478aTotals.lean).
  GIVEN WITH THE SEED: the statements are not yours to turn. If you find one false, say at which input.
  Laid BY PROGRAM, IN A SANDBOX (cutbox-rows.mjs): the forced cells as the released guide's own fill.sh prints them over the translation 40b2aafca158d30c… (all of the seat's roots in one cut). By AI agents, Wed Nov 11 2026. No macro, syntax, notation, axiom, sorry.
-/
import Derived.Test.Qxb6627478aChecked
import GoSem.Claim
import GoSem.ClaimJoined
import GoSem.ClaimMapViews
import Derived.JoinedTies
import Derived.KernelRfl
namespace Go.Proofs.Qxb6627478a
/- THE CELL 'sum', in the pinned program and in every row, IS THE sha256 OF THE DUMP (.gsa) THAT Qxb6627478aProg.lean LOADS. Nothing in Lean hashes anything: it is a label: what it is worth is what the hold of that sum in a sandbox is worth. -/
noncomputable def Try.pinned : Pinned := { name := "qxb6627478a", sum := "40b2aafca158d30ca6b03a4e93e3e9f68c82c905f00f5e44f84b4d4de650ed6c", checked := Try.checked }
namespace Rows
def none {H : Type} : Left H := { results := [], args := [] }

/-- 'zzlaws_internal_bootstrap_b1.FnPatternsSplitJoin': WHATEVER THE INPUT: true; the input reads as it did. -/
def fnPatternsSplitJoinSpec : ChangeSpec := { name := "fnPatternsSplitJoin", fn := fun _ => fun
  | [d1, d2, d3, d4] => { results := [.lit (.bool true)], args := [d1, d2, d3, d4] }
  | _ => none }
def fnPatternsSplitJoinRow : OpenClaim := { program := "qxb6627478a", sum := "40b2aafca158d30ca6b03a4e93e3e9f68c82c905f00f5e44f84b4d4de650ed6c", func := "example.com/tallykeep/tallykeep/zzlaws_internal_bootstrap_b1.FnPatternsSplitJoin", spec := "fnPatternsSplitJoin", apart := false }
def FnPatternsSplitJoinSaid : Prop := fnPatternsSplitJoinRow.holds Try.pinned (OpenSpec.ofChange fnPatternsSplitJoinSpec)

/-- ITS FALSE NEIGHBOUR: 'it returns false'. Refute it at one input. -/
def fnPatternsSplitJoinWrong : ChangeSpec := { name := "fnPatternsSplitJoin", fn := fun _ => fun
  | [d1, d2, d3, d4] => { results := [.lit (.bool false)], args := [d1, d2, d3, d4] }
  | _ => none }
def FnPatternsSplitJoinWrongFalsely : Prop := fnPatternsSplitJoinRow.holds Try.pinned (OpenSpec.ofChange fnPatternsSplitJoinWrong)

/-- 'zzlaws_internal_bootstrap_b1.FnPatternsPartitionByKeyword': WHATEVER THE INPUT: true; the input reads as it did. -/
def fnPatternsPartitionByKeywordSpec : ChangeSpec := { name := "fnPatternsPartitionByKeyword", fn := fun _ => fun
  | [d1, d2, d3] => { results := [.lit (.bool true)], args := [d1, d2, d3] }
  | _ => none }
def fnPatternsPartitionByKeywordRow : OpenClaim := { program := "qxb6627478a", sum := "40b2aafca158d30ca6b03a4e93e3e9f68c82c905f00f5e44f84b4d4de650ed6c", func := "example.com/tallykeep/tallykeep/zzlaws_internal_bootstrap_b1.FnPatternsPartitionByKeyword", spec := "fnPatternsPartitionByKeyword", apart := false }
def FnPatternsPartitionByKeywordSaid : Prop := fnPatternsPartitionByKeywordRow.holds Try.pinned (OpenSpec.ofChange fnPatternsPartitionByKeywordSpec)

/-- ITS FALSE NEIGHBOUR: 'it returns false'. Refute it at one input. -/
def fnPatternsPartitionByKeywordWrong : ChangeSpec := { name := "fnPatternsPartitionByKeyword", fn := fun _ => fun
  | [d1, d2, d3] => { results := [.lit (.bool false)], args := [d1, d2, d3] }
  | _ => none }
def FnPatternsPartitionByKeywordWrongFalsely : Prop := fnPatternsPartitionByKeywordRow.holds Try.pinned (OpenSpec.ofChange fnPatternsPartitionByKeywordWrong)

end Rows
end Go.Proofs.Qxb6627478a
