/-
  No cell of these rows narrows 'for every input' (looked for: loops, veiled, ifaces, maps, wideKeys, modest, calm, conditions, laid).
  DERIVED. THE GIVEN ROWS OF THIS SEAT. 2 by the template 'for every input the law returns true; each argument reads behind the call as it read before'; 0 by the template 'total and deterministic' (their statements: Qxb6630930aTotals.lean).
  GIVEN WITH THE SEED: the statements are not yours to turn. If you find one false, say at which input.
  Laid BY PROGRAM, IN A SANDBOX (cutbox-rows.mjs): the forced cells as the released guide's own fill.sh prints them over the translation 133d3ef2882f1126… (all of the seat's roots in one cut). By AI agents, Wed Nov 11 2026. No macro, syntax, notation, axiom, sorry.
-/
import Derived.Test.Qxb6630930aChecked
import GoSem.Claim
import GoSem.ClaimJoined
import GoSem.ClaimMapViews
import Derived.JoinedTies
import Derived.KernelRfl
namespace Go.Proofs.Qxb6630930a
/- THE CELL 'sum', in the pinned program and in every row, IS THE sha256 OF THE DUMP (.gsa) THAT Qxb6630930aProg.lean LOADS. Nothing in Lean hashes anything: it is a label: what it is worth is what the hold of that sum in a sandbox is worth. -/
noncomputable def Try.pinned : Pinned := { name := "qxb6630930a", sum := "133d3ef2882f11266e1bf68e84effd47c4112013498f8e09dfaf5b48197fcee3", checked := Try.checked }
namespace Rows
def none {H : Type} : Left H := { results := [], args := [] }

/-- 'zzlaws_pkg_packet_b1.FnBytesIsHeaderThenData': WHATEVER THE INPUT: true; the input reads as it did. -/
def fnBytesIsHeaderThenDataSpec : ChangeSpec := { name := "fnBytesIsHeaderThenData", fn := fun _ => fun
  | [d1, d2, d3, d4, d5, d6, d7, d8, d9, d10, d11] => { results := [.lit (.bool true)], args := [d1, d2, d3, d4, d5, d6, d7, d8, d9, d10, d11] }
  | _ => none }
def fnBytesIsHeaderThenDataRow : OpenClaim := { program := "qxb6630930a", sum := "133d3ef2882f11266e1bf68e84effd47c4112013498f8e09dfaf5b48197fcee3", func := "example.com/farloom/farloom/zzlaws_pkg_packet_b1.FnBytesIsHeaderThenData", spec := "fnBytesIsHeaderThenData", apart := false }
def FnBytesIsHeaderThenDataSaid : Prop := fnBytesIsHeaderThenDataRow.holds Try.pinned (OpenSpec.ofChange fnBytesIsHeaderThenDataSpec)

/-- ITS FALSE NEIGHBOUR: 'it returns false'. Refute it at one input. -/
def fnBytesIsHeaderThenDataWrong : ChangeSpec := { name := "fnBytesIsHeaderThenData", fn := fun _ => fun
  | [d1, d2, d3, d4, d5, d6, d7, d8, d9, d10, d11] => { results := [.lit (.bool false)], args := [d1, d2, d3, d4, d5, d6, d7, d8, d9, d10, d11] }
  | _ => none }
def FnBytesIsHeaderThenDataWrongFalsely : Prop := fnBytesIsHeaderThenDataRow.holds Try.pinned (OpenSpec.ofChange fnBytesIsHeaderThenDataWrong)

/-- 'zzlaws_pkg_packet_b1.FnBytesTransportIDAndFlags': WHATEVER THE INPUT: true; the input reads as it did. -/
def fnBytesTransportIDAndFlagsSpec : ChangeSpec := { name := "fnBytesTransportIDAndFlags", fn := fun _ => fun
  | [d1, d2, d3, d4, d5, d6, d7, d8, d9] => { results := [.lit (.bool true)], args := [d1, d2, d3, d4, d5, d6, d7, d8, d9] }
  | _ => none }
def fnBytesTransportIDAndFlagsRow : OpenClaim := { program := "qxb6630930a", sum := "133d3ef2882f11266e1bf68e84effd47c4112013498f8e09dfaf5b48197fcee3", func := "example.com/farloom/farloom/zzlaws_pkg_packet_b1.FnBytesTransportIDAndFlags", spec := "fnBytesTransportIDAndFlags", apart := false }
def FnBytesTransportIDAndFlagsSaid : Prop := fnBytesTransportIDAndFlagsRow.holds Try.pinned (OpenSpec.ofChange fnBytesTransportIDAndFlagsSpec)

/-- ITS FALSE NEIGHBOUR: 'it returns false'. Refute it at one input. -/
def fnBytesTransportIDAndFlagsWrong : ChangeSpec := { name := "fnBytesTransportIDAndFlags", fn := fun _ => fun
  | [d1, d2, d3, d4, d5, d6, d7, d8, d9] => { results := [.lit (.bool false)], args := [d1, d2, d3, d4, d5, d6, d7, d8, d9] }
  | _ => none }
def FnBytesTransportIDAndFlagsWrongFalsely : Prop := fnBytesTransportIDAndFlagsRow.holds Try.pinned (OpenSpec.ofChange fnBytesTransportIDAndFlagsWrong)

end Rows
end Go.Proofs.Qxb6630930a
