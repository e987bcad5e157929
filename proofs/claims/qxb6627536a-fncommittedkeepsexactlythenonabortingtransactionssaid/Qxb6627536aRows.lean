/-
  No cell of these rows narrows 'for every input' (looked for: loops, veiled, ifaces, maps, wideKeys, modest, calm, conditions, laid).
  DERIVED. THE GIVEN ROWS OF THIS SEAT. 2 by the template 'for every input the law returns true; each argument reads behind the call as it read before'; 0 by the template 'total and deterministic' (their statements: Qxb6627536aTotals.lean).
  GIVEN WITH THE SEED: the statements are not yours to turn. If you find one false, say at which input.
  Laid BY PROGRAM, IN A SANDBOX (cutbox-rows.mjs): the forced cells as the released guide's own fill.sh prints them over the translation c106c94c95ec0fa8… (all of the seat's roots in one cut). By AI agents, Wed Nov 11 2026. No macro, syntax, notation, axiom, sorry.
-/
import Derived.Test.Qxb6627536aChecked
import GoSem.Claim
import GoSem.ClaimJoined
import GoSem.ClaimMapViews
import Derived.JoinedTies
import Derived.KernelRfl
namespace Go.Proofs.Qxb6627536a
/- THE CELL 'sum', in the pinned program and in every row, IS THE sha256 OF THE DUMP (.gsa) THAT Qxb6627536aProg.lean LOADS. Nothing in Lean hashes anything: it is a label: what it is worth is what the hold of that sum in a sandbox is worth. -/
noncomputable def Try.pinned : Pinned := { name := "qxb6627536a", sum := "c106c94c95ec0fa8a47f67fb772d07bb454828810e400fec9d630be00a4886c7", checked := Try.checked }
namespace Rows
def none {H : Type} : Left H := { results := [], args := [] }

/-- 'zzlaws_root_b1.FnCommittedKeepsExactlyTheNonAbortingTransactions': WHATEVER THE INPUT: true; the input reads as it did. -/
def fnCommittedKeepsExactlyTheNonAbortingTransactionsSpec : ChangeSpec := { name := "fnCommittedKeepsExactlyTheNonAbortingTransactions", fn := fun _ => fun
  | [d1, d2, d3] => { results := [.lit (.bool true)], args := [d1, d2, d3] }
  | _ => none }
def fnCommittedKeepsExactlyTheNonAbortingTransactionsRow : OpenClaim := { program := "qxb6627536a", sum := "c106c94c95ec0fa8a47f67fb772d07bb454828810e400fec9d630be00a4886c7", func := "example.com/interleave/interleave/zzlaws_root_b1.FnCommittedKeepsExactlyTheNonAbortingTransactions", spec := "fnCommittedKeepsExactlyTheNonAbortingTransactions", apart := false }
def FnCommittedKeepsExactlyTheNonAbortingTransactionsSaid : Prop := fnCommittedKeepsExactlyTheNonAbortingTransactionsRow.holds Try.pinned (OpenSpec.ofChange fnCommittedKeepsExactlyTheNonAbortingTransactionsSpec)

/-- ITS FALSE NEIGHBOUR: 'it returns false'. Refute it at one input. -/
def fnCommittedKeepsExactlyTheNonAbortingTransactionsWrong : ChangeSpec := { name := "fnCommittedKeepsExactlyTheNonAbortingTransactions", fn := fun _ => fun
  | [d1, d2, d3] => { results := [.lit (.bool false)], args := [d1, d2, d3] }
  | _ => none }
def FnCommittedKeepsExactlyTheNonAbortingTransactionsWrongFalsely : Prop := fnCommittedKeepsExactlyTheNonAbortingTransactionsRow.holds Try.pinned (OpenSpec.ofChange fnCommittedKeepsExactlyTheNonAbortingTransactionsWrong)

/-- 'zzlaws_root_b1.FnCommittedAfterAnAppendedAbortDropsJustThatTransaction': WHATEVER THE INPUT: true; the input reads as it did. -/
def fnCommittedAfterAnAppendedAbortDropsJustThatTransactionSpec : ChangeSpec := { name := "fnCommittedAfterAnAppendedAbortDropsJustThatTransaction", fn := fun _ => fun
  | [d1, d2, d3, d4] => { results := [.lit (.bool true)], args := [d1, d2, d3, d4] }
  | _ => none }
def fnCommittedAfterAnAppendedAbortDropsJustThatTransactionRow : OpenClaim := { program := "qxb6627536a", sum := "c106c94c95ec0fa8a47f67fb772d07bb454828810e400fec9d630be00a4886c7", func := "example.com/interleave/interleave/zzlaws_root_b1.FnCommittedAfterAnAppendedAbortDropsJustThatTransaction", spec := "fnCommittedAfterAnAppendedAbortDropsJustThatTransaction", apart := false }
def FnCommittedAfterAnAppendedAbortDropsJustThatTransactionSaid : Prop := fnCommittedAfterAnAppendedAbortDropsJustThatTransactionRow.holds Try.pinned (OpenSpec.ofChange fnCommittedAfterAnAppendedAbortDropsJustThatTransactionSpec)

/-- ITS FALSE NEIGHBOUR: 'it returns false'. Refute it at one input. -/
def fnCommittedAfterAnAppendedAbortDropsJustThatTransactionWrong : ChangeSpec := { name := "fnCommittedAfterAnAppendedAbortDropsJustThatTransaction", fn := fun _ => fun
  | [d1, d2, d3, d4] => { results := [.lit (.bool false)], args := [d1, d2, d3, d4] }
  | _ => none }
def FnCommittedAfterAnAppendedAbortDropsJustThatTransactionWrongFalsely : Prop := fnCommittedAfterAnAppendedAbortDropsJustThatTransactionRow.holds Try.pinned (OpenSpec.ofChange fnCommittedAfterAnAppendedAbortDropsJustThatTransactionWrong)

end Rows
end Go.Proofs.Qxb6627536a
