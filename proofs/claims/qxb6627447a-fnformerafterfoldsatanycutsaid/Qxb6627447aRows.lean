/-
  No cell of these rows narrows 'for every input' (looked for: loops, veiled, ifaces, maps, wideKeys, modest, calm, conditions, laid).
  DERIVED. THE GIVEN ROWS OF THIS SEAT. 2 by the template 'for every input the law returns true; each argument reads behind the call as it read before'; 0 by the template 'total and deterministic' (their statements: Qxb6627447aTotals.lean).
  GIVEN WITH THE SEED: the statements are not yours to turn. If you find one false, say at which input.
  Laid BY PROGRAM, IN A SANDBOX (cutbox-rows.mjs): the forced cells as the released guide's own fill.sh prints them over the translation ad0ef495d8fb47f9… (all of the seat's roots in one cut). By AI agents, Wed Nov 11 2026. No macro, syntax, notation, axiom, sorry.
-/
import Derived.Test.Qxb6627447aChecked
import GoSem.Claim
import GoSem.ClaimJoined
import GoSem.ClaimMapViews
import Derived.JoinedTies
import Derived.KernelRfl
namespace Go.Proofs.Qxb6627447a
/- THE CELL 'sum', in the pinned program and in every row, IS THE sha256 OF THE DUMP (.gsa) THAT Qxb6627447aProg.lean LOADS. Nothing in Lean hashes anything: it is a label: what it is worth is what the hold of that sum in a sandbox is worth. -/
noncomputable def Try.pinned : Pinned := { name := "qxb6627447a", sum := "ad0ef495d8fb47f9644564ea37529cd23149354021313d4911f0f5d371756cfd", checked := Try.checked }
namespace Rows
def none {H : Type} : Left H := { results := [], args := [] }

/-- 'zzlaws_internal_paxos_b1.FnFormerAfterIsLatestKept': WHATEVER THE INPUT: true; the input reads as it did. -/
def fnFormerAfterIsLatestKeptSpec : ChangeSpec := { name := "fnFormerAfterIsLatestKept", fn := fun _ => fun
  | [d1, d2, d3, d4, d5, d6] => { results := [.lit (.bool true)], args := [d1, d2, d3, d4, d5, d6] }
  | _ => none }
def fnFormerAfterIsLatestKeptRow : OpenClaim := { program := "qxb6627447a", sum := "ad0ef495d8fb47f9644564ea37529cd23149354021313d4911f0f5d371756cfd", func := "example.com/consentire/consentire/zzlaws_internal_paxos_b1.FnFormerAfterIsLatestKept", spec := "fnFormerAfterIsLatestKept", apart := false }
def FnFormerAfterIsLatestKeptSaid : Prop := fnFormerAfterIsLatestKeptRow.holds Try.pinned (OpenSpec.ofChange fnFormerAfterIsLatestKeptSpec)

/-- ITS FALSE NEIGHBOUR: 'it returns false'. Refute it at one input. -/
def fnFormerAfterIsLatestKeptWrong : ChangeSpec := { name := "fnFormerAfterIsLatestKept", fn := fun _ => fun
  | [d1, d2, d3, d4, d5, d6] => { results := [.lit (.bool false)], args := [d1, d2, d3, d4, d5, d6] }
  | _ => none }
def FnFormerAfterIsLatestKeptWrongFalsely : Prop := fnFormerAfterIsLatestKeptRow.holds Try.pinned (OpenSpec.ofChange fnFormerAfterIsLatestKeptWrong)

/-- 'zzlaws_internal_paxos_b1.FnFormerAfterFoldsAtAnyCut': WHATEVER THE INPUT: true; the input reads as it did. -/
def fnFormerAfterFoldsAtAnyCutSpec : ChangeSpec := { name := "fnFormerAfterFoldsAtAnyCut", fn := fun _ => fun
  | [d1, d2, d3, d4, d5, d6, d7] => { results := [.lit (.bool true)], args := [d1, d2, d3, d4, d5, d6, d7] }
  | _ => none }
def fnFormerAfterFoldsAtAnyCutRow : OpenClaim := { program := "qxb6627447a", sum := "ad0ef495d8fb47f9644564ea37529cd23149354021313d4911f0f5d371756cfd", func := "example.com/consentire/consentire/zzlaws_internal_paxos_b1.FnFormerAfterFoldsAtAnyCut", spec := "fnFormerAfterFoldsAtAnyCut", apart := false }
def FnFormerAfterFoldsAtAnyCutSaid : Prop := fnFormerAfterFoldsAtAnyCutRow.holds Try.pinned (OpenSpec.ofChange fnFormerAfterFoldsAtAnyCutSpec)

/-- ITS FALSE NEIGHBOUR: 'it returns false'. Refute it at one input. -/
def fnFormerAfterFoldsAtAnyCutWrong : ChangeSpec := { name := "fnFormerAfterFoldsAtAnyCut", fn := fun _ => fun
  | [d1, d2, d3, d4, d5, d6, d7] => { results := [.lit (.bool false)], args := [d1, d2, d3, d4, d5, d6, d7] }
  | _ => none }
def FnFormerAfterFoldsAtAnyCutWrongFalsely : Prop := fnFormerAfterFoldsAtAnyCutRow.holds Try.pinned (OpenSpec.ofChange fnFormerAfterFoldsAtAnyCutWrong)

end Rows
end Go.Proofs.Qxb6627447a
