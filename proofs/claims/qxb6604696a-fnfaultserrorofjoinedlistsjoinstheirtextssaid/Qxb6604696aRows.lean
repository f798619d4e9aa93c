/-
  No cell of these rows narrows 'for every input' (looked for: loops, veiled, ifaces, maps, wideKeys, modest, calm, conditions, laid).
  DERIVED. THE GIVEN ROWS OF THIS SEAT. 3 by the template 'for every input the law returns true; each argument reads behind the call as it read before'; 0 by the template 'total and deterministic' (their statements: Qxb6604696aTotals.lean).
  GIVEN WITH THE SEED: the statements are not yours to turn. If you find one false, say at which input.
  Laid BY PROGRAM, IN A SANDBOX (cutbox-rows.mjs): the forced cells as the released guide's own fill.sh prints them over the translation 47fba97c7154236d… (all of the seat's roots in one cut). By AI agents, Wed Nov 11 2026. No macro, syntax, notation, axiom, sorry.
-/
import Derived.Test.Qxb6604696aChecked
import GoSem.Claim
import GoSem.ClaimJoined
import GoSem.ClaimMapViews
import Derived.JoinedTies
import Derived.KernelRfl
namespace Go.Proofs.Qxb6604696a
/- THE CELL 'sum', in the pinned program and in every row, IS THE sha256 OF THE DUMP (.gsa) THAT Qxb6604696aProg.lean LOADS. Nothing in Lean hashes anything: it is a label: what it is worth is what the hold of that sum in a sandbox is worth. -/
noncomputable def Try.pinned : Pinned := { name := "qxb6604696a", sum := "47fba97c7154236d54fc625ea22e1de6906ec2a73076929f1454915396c7c213", checked := Try.checked }
namespace Rows
def none {H : Type} : Left H := { results := [], args := [] }

/-- 'zzlaws_internal_project_b1.FnNeverArchivedNamesAreStillProjectFiles': WHATEVER THE INPUT: true; the input reads as it did. -/
def fnNeverArchivedNamesAreStillProjectFilesSpec : ChangeSpec := { name := "fnNeverArchivedNamesAreStillProjectFiles", fn := fun _ => fun
  | [d] => { results := [.lit (.bool true)], args := [d] }
  | _ => none }
def fnNeverArchivedNamesAreStillProjectFilesRow : OpenClaim := { program := "qxb6604696a", sum := "47fba97c7154236d54fc625ea22e1de6906ec2a73076929f1454915396c7c213", func := "example.com/stevedoor/stevedoor/zzlaws_internal_project_b1.FnNeverArchivedNamesAreStillProjectFiles", spec := "fnNeverArchivedNamesAreStillProjectFiles", apart := false }
def FnNeverArchivedNamesAreStillProjectFilesSaid : Prop := fnNeverArchivedNamesAreStillProjectFilesRow.holds Try.pinned (OpenSpec.ofChange fnNeverArchivedNamesAreStillProjectFilesSpec)

/-- ITS FALSE NEIGHBOUR: 'it returns false'. Refute it at one input. -/
def fnNeverArchivedNamesAreStillProjectFilesWrong : ChangeSpec := { name := "fnNeverArchivedNamesAreStillProjectFiles", fn := fun _ => fun
  | [d] => { results := [.lit (.bool false)], args := [d] }
  | _ => none }
def FnNeverArchivedNamesAreStillProjectFilesWrongFalsely : Prop := fnNeverArchivedNamesAreStillProjectFilesRow.holds Try.pinned (OpenSpec.ofChange fnNeverArchivedNamesAreStillProjectFilesWrong)

/-- 'zzlaws_internal_project_b1.FnFaultsErrorLaysEachMessageOnItsOwnLine': WHATEVER THE INPUT: true; the input reads as it did. -/
def fnFaultsErrorLaysEachMessageOnItsOwnLineSpec : ChangeSpec := { name := "fnFaultsErrorLaysEachMessageOnItsOwnLine", fn := fun _ => fun
  | [d] => { results := [.lit (.bool true)], args := [d] }
  | _ => none }
def fnFaultsErrorLaysEachMessageOnItsOwnLineRow : OpenClaim := { program := "qxb6604696a", sum := "47fba97c7154236d54fc625ea22e1de6906ec2a73076929f1454915396c7c213", func := "example.com/stevedoor/stevedoor/zzlaws_internal_project_b1.FnFaultsErrorLaysEachMessageOnItsOwnLine", spec := "fnFaultsErrorLaysEachMessageOnItsOwnLine", inPlace := ["internal/abi.NoEscape", "internal/bytealg.MakeNoZero"], unfollowed := true, recurses := true, apart := false }
def FnFaultsErrorLaysEachMessageOnItsOwnLineSaid : Prop := fnFaultsErrorLaysEachMessageOnItsOwnLineRow.holds Try.pinned (OpenSpec.ofChange fnFaultsErrorLaysEachMessageOnItsOwnLineSpec)

/-- ITS FALSE NEIGHBOUR: 'it returns false'. Refute it at one input. -/
def fnFaultsErrorLaysEachMessageOnItsOwnLineWrong : ChangeSpec := { name := "fnFaultsErrorLaysEachMessageOnItsOwnLine", fn := fun _ => fun
  | [d] => { results := [.lit (.bool false)], args := [d] }
  | _ => none }
def FnFaultsErrorLaysEachMessageOnItsOwnLineWrongFalsely : Prop := fnFaultsErrorLaysEachMessageOnItsOwnLineRow.holds Try.pinned (OpenSpec.ofChange fnFaultsErrorLaysEachMessageOnItsOwnLineWrong)

/-- 'zzlaws_internal_project_b1.FnFaultsErrorOfJoinedListsJoinsTheirTexts': WHATEVER THE INPUT: true; the input reads as it did. -/
def fnFaultsErrorOfJoinedListsJoinsTheirTextsSpec : ChangeSpec := { name := "fnFaultsErrorOfJoinedListsJoinsTheirTexts", fn := fun _ => fun
  | [d1, d2] => { results := [.lit (.bool true)], args := [d1, d2] }
  | _ => none }
def fnFaultsErrorOfJoinedListsJoinsTheirTextsRow : OpenClaim := { program := "qxb6604696a", sum := "47fba97c7154236d54fc625ea22e1de6906ec2a73076929f1454915396c7c213", func := "example.com/stevedoor/stevedoor/zzlaws_internal_project_b1.FnFaultsErrorOfJoinedListsJoinsTheirTexts", spec := "fnFaultsErrorOfJoinedListsJoinsTheirTexts", inPlace := ["internal/abi.NoEscape", "internal/bytealg.MakeNoZero"], unfollowed := true, recurses := true, apart := false }
def FnFaultsErrorOfJoinedListsJoinsTheirTextsSaid : Prop := fnFaultsErrorOfJoinedListsJoinsTheirTextsRow.holds Try.pinned (OpenSpec.ofChange fnFaultsErrorOfJoinedListsJoinsTheirTextsSpec)

/-- ITS FALSE NEIGHBOUR: 'it returns false'. Refute it at one input. -/
def fnFaultsErrorOfJoinedListsJoinsTheirTextsWrong : ChangeSpec := { name := "fnFaultsErrorOfJoinedListsJoinsTheirTexts", fn := fun _ => fun
  | [d1, d2] => { results := [.lit (.bool false)], args := [d1, d2] }
  | _ => none }
def FnFaultsErrorOfJoinedListsJoinsTheirTextsWrongFalsely : Prop := fnFaultsErrorOfJoinedListsJoinsTheirTextsRow.holds Try.pinned (OpenSpec.ofChange fnFaultsErrorOfJoinedListsJoinsTheirTextsWrong)

end Rows
end Go.Proofs.Qxb6604696a
