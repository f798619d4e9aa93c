/-
  No cell of these rows narrows 'for every input' (looked for: loops, veiled, ifaces, maps, wideKeys, modest, calm, conditions, laid).
  DERIVED. THE GIVEN ROWS OF THIS SEAT. 5 by the template 'for every input the law returns true; each argument reads behind the call as it read before'; 0 by the template 'total and deterministic' (their statements: Qxb6604750aTotals.lean).
  GIVEN WITH THE SEED: the statements are not yours to turn. If you find one false, say at which input.
  Laid BY PROGRAM, IN A SANDBOX (cutbox-rows.mjs): the forced cells as the released guide's own fill.sh prints them over the translation 3306193012f37d23… (all of the seat's roots in one cut). By AI agents, Wed Nov 11 2026. No macro, syntax, notation, axiom, sorry.
-/
import Derived.Test.Qxb6604750aChecked
import GoSem.Claim
import GoSem.ClaimJoined
import GoSem.ClaimMapViews
import Derived.JoinedTies
import Derived.KernelRfl
namespace Go.Proofs.Qxb6604750a
/- THE CELL 'sum', in the pinned program and in every row, IS THE sha256 OF THE DUMP (.gsa) THAT Qxb6604750aProg.lean LOADS. Nothing in Lean hashes anything: it is a label: what it is worth is what the hold of that sum in a sandbox is worth. -/
noncomputable def Try.pinned : Pinned := { name := "qxb6604750a", sum := "3306193012f37d234fc2dda4d4144bb1b07a2fafa75c59e6b90bc3db7918fdd9", checked := Try.checked }
namespace Rows
def none {H : Type} : Left H := { results := [], args := [] }

/-- 'zzlaws_coordinator_b1.FnPushFillsBlocksInOpenedOrder': WHATEVER THE INPUT: true; the input reads as it did. -/
def fnPushFillsBlocksInOpenedOrderSpec : ChangeSpec := { name := "fnPushFillsBlocksInOpenedOrder", fn := fun _ => fun
  | [d] => { results := [.lit (.bool true)], args := [d] }
  | _ => none }
def fnPushFillsBlocksInOpenedOrderRow : OpenClaim := { program := "qxb6604750a", sum := "3306193012f37d234fc2dda4d4144bb1b07a2fafa75c59e6b90bc3db7918fdd9", func := "example.com/holdfast/holdfast/zzlaws_coordinator_b1.FnPushFillsBlocksInOpenedOrder", spec := "fnPushFillsBlocksInOpenedOrder", apart := false }
def FnPushFillsBlocksInOpenedOrderSaid : Prop := fnPushFillsBlocksInOpenedOrderRow.holds Try.pinned (OpenSpec.ofChange fnPushFillsBlocksInOpenedOrderSpec)

/-- ITS FALSE NEIGHBOUR: 'it returns false'. Refute it at one input. -/
def fnPushFillsBlocksInOpenedOrderWrong : ChangeSpec := { name := "fnPushFillsBlocksInOpenedOrder", fn := fun _ => fun
  | [d] => { results := [.lit (.bool false)], args := [d] }
  | _ => none }
def FnPushFillsBlocksInOpenedOrderWrongFalsely : Prop := fnPushFillsBlocksInOpenedOrderRow.holds Try.pinned (OpenSpec.ofChange fnPushFillsBlocksInOpenedOrderWrong)

/-- 'zzlaws_coordinator_b1.FnPushMovesNoEntryAndAppendsLast': WHATEVER THE INPUT: true; the input reads as it did. -/
def fnPushMovesNoEntryAndAppendsLastSpec : ChangeSpec := { name := "fnPushMovesNoEntryAndAppendsLast", fn := fun _ => fun
  | [d] => { results := [.lit (.bool true)], args := [d] }
  | _ => none }
def fnPushMovesNoEntryAndAppendsLastRow : OpenClaim := { program := "qxb6604750a", sum := "3306193012f37d234fc2dda4d4144bb1b07a2fafa75c59e6b90bc3db7918fdd9", func := "example.com/holdfast/holdfast/zzlaws_coordinator_b1.FnPushMovesNoEntryAndAppendsLast", spec := "fnPushMovesNoEntryAndAppendsLast", apart := false }
def FnPushMovesNoEntryAndAppendsLastSaid : Prop := fnPushMovesNoEntryAndAppendsLastRow.holds Try.pinned (OpenSpec.ofChange fnPushMovesNoEntryAndAppendsLastSpec)

/-- ITS FALSE NEIGHBOUR: 'it returns false'. Refute it at one input. -/
def fnPushMovesNoEntryAndAppendsLastWrong : ChangeSpec := { name := "fnPushMovesNoEntryAndAppendsLast", fn := fun _ => fun
  | [d] => { results := [.lit (.bool false)], args := [d] }
  | _ => none }
def FnPushMovesNoEntryAndAppendsLastWrongFalsely : Prop := fnPushMovesNoEntryAndAppendsLastRow.holds Try.pinned (OpenSpec.ofChange fnPushMovesNoEntryAndAppendsLastWrong)

/-- 'zzlaws_coordinator_b1.FnBranchSettledAgreesWithLoneTransaction': WHATEVER THE INPUT: true; the input reads as it did. -/
def fnBranchSettledAgreesWithLoneTransactionSpec : ChangeSpec := { name := "fnBranchSettledAgreesWithLoneTransaction", fn := fun _ => fun
  | [d] => { results := [.lit (.bool true)], args := [d] }
  | _ => none }
def fnBranchSettledAgreesWithLoneTransactionRow : OpenClaim := { program := "qxb6604750a", sum := "3306193012f37d234fc2dda4d4144bb1b07a2fafa75c59e6b90bc3db7918fdd9", func := "example.com/holdfast/holdfast/zzlaws_coordinator_b1.FnBranchSettledAgreesWithLoneTransaction", spec := "fnBranchSettledAgreesWithLoneTransaction", apart := false }
def FnBranchSettledAgreesWithLoneTransactionSaid : Prop := fnBranchSettledAgreesWithLoneTransactionRow.holds Try.pinned (OpenSpec.ofChange fnBranchSettledAgreesWithLoneTransactionSpec)

/-- ITS FALSE NEIGHBOUR: 'it returns false'. Refute it at one input. -/
def fnBranchSettledAgreesWithLoneTransactionWrong : ChangeSpec := { name := "fnBranchSettledAgreesWithLoneTransaction", fn := fun _ => fun
  | [d] => { results := [.lit (.bool false)], args := [d] }
  | _ => none }
def FnBranchSettledAgreesWithLoneTransactionWrongFalsely : Prop := fnBranchSettledAgreesWithLoneTransactionRow.holds Try.pinned (OpenSpec.ofChange fnBranchSettledAgreesWithLoneTransactionWrong)

/-- 'zzlaws_coordinator_b1.FnTransactionSettledIsAnyReason': WHATEVER THE INPUT: true; the input reads as it did. -/
def fnTransactionSettledIsAnyReasonSpec : ChangeSpec := { name := "fnTransactionSettledIsAnyReason", fn := fun _ => fun
  | [d1, d2, d3] => { results := [.lit (.bool true)], args := [d1, d2, d3] }
  | _ => none }
def fnTransactionSettledIsAnyReasonRow : OpenClaim := { program := "qxb6604750a", sum := "3306193012f37d234fc2dda4d4144bb1b07a2fafa75c59e6b90bc3db7918fdd9", func := "example.com/holdfast/holdfast/zzlaws_coordinator_b1.FnTransactionSettledIsAnyReason", spec := "fnTransactionSettledIsAnyReason", apart := false }
def FnTransactionSettledIsAnyReasonSaid : Prop := fnTransactionSettledIsAnyReasonRow.holds Try.pinned (OpenSpec.ofChange fnTransactionSettledIsAnyReasonSpec)

/-- ITS FALSE NEIGHBOUR: 'it returns false'. Refute it at one input. -/
def fnTransactionSettledIsAnyReasonWrong : ChangeSpec := { name := "fnTransactionSettledIsAnyReason", fn := fun _ => fun
  | [d1, d2, d3] => { results := [.lit (.bool false)], args := [d1, d2, d3] }
  | _ => none }
def FnTransactionSettledIsAnyReasonWrongFalsely : Prop := fnTransactionSettledIsAnyReasonRow.holds Try.pinned (OpenSpec.ofChange fnTransactionSettledIsAnyReasonWrong)

/-- 'zzlaws_coordinator_b1.FnTransactionSettledByAddedBranch': WHATEVER THE INPUT: true; the input reads as it did. -/
def fnTransactionSettledByAddedBranchSpec : ChangeSpec := { name := "fnTransactionSettledByAddedBranch", fn := fun _ => fun
  | [d1, d2, d3, d4] => { results := [.lit (.bool true)], args := [d1, d2, d3, d4] }
  | _ => none }
def fnTransactionSettledByAddedBranchRow : OpenClaim := { program := "qxb6604750a", sum := "3306193012f37d234fc2dda4d4144bb1b07a2fafa75c59e6b90bc3db7918fdd9", func := "example.com/holdfast/holdfast/zzlaws_coordinator_b1.FnTransactionSettledByAddedBranch", spec := "fnTransactionSettledByAddedBranch", apart := false }
def FnTransactionSettledByAddedBranchSaid : Prop := fnTransactionSettledByAddedBranchRow.holds Try.pinned (OpenSpec.ofChange fnTransactionSettledByAddedBranchSpec)

/-- ITS FALSE NEIGHBOUR: 'it returns false'. Refute it at one input. -/
def fnTransactionSettledByAddedBranchWrong : ChangeSpec := { name := "fnTransactionSettledByAddedBranch", fn := fun _ => fun
  | [d1, d2, d3, d4] => { results := [.lit (.bool false)], args := [d1, d2, d3, d4] }
  | _ => none }
def FnTransactionSettledByAddedBranchWrongFalsely : Prop := fnTransactionSettledByAddedBranchRow.holds Try.pinned (OpenSpec.ofChange fnTransactionSettledByAddedBranchWrong)

end Rows
end Go.Proofs.Qxb6604750a
