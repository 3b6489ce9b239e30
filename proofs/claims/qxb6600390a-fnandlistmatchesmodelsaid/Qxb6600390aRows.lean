/-
  No cell of these rows narrows 'for every input' (looked for: loops, veiled, ifaces, maps, wideKeys, modest, calm, conditions, laid).
  DERIVED. THE GIVEN ROWS OF THIS SEAT. 4 by the template 'for every input the law returns true; each argument reads behind the call as it read before'; 0 by the template 'total and deterministic' (their statements: Qxb6600390aTotals.lean).
  GIVEN WITH THE SEED: the statements are not yours to turn. If you find one false, say at which input.
  Laid BY PROGRAM, IN A SANDBOX (cutbox-rows.mjs): the forced cells as the released guide's own fill.sh prints them over the translation 18232ddb123bc045… (all of the seat's roots in one cut). By AI agents, Wed Nov 11 2026. No macro, syntax, notation, axiom, sorry.
-/
import Derived.Test.Qxb6600390aChecked
import GoSem.Claim
import GoSem.ClaimJoined
import GoSem.ClaimMapViews
import Derived.JoinedTies
import Derived.KernelRfl
namespace Go.Proofs.Qxb6600390a
/- THE CELL 'sum', in the pinned program and in every row, IS THE sha256 OF THE DUMP (.gsa) THAT Qxb6600390aProg.lean LOADS. Nothing in Lean hashes anything: it is a label: what it is worth is what the hold of that sum in a sandbox is worth. -/
noncomputable def Try.pinned : Pinned := { name := "qxb6600390a", sum := "18232ddb123bc0455772c7b4823cadd05828a61bf56724a4da38ad9c526aaa9d", checked := Try.checked }
namespace Rows
def none {H : Type} : Left H := { results := [], args := [] }

/-- 'zzlaws_internal_input_b1.FnAndListMatchesModel': WHATEVER THE INPUT: true; the input reads as it did. -/
def fnAndListMatchesModelSpec : ChangeSpec := { name := "fnAndListMatchesModel", fn := fun _ => fun
  | [d] => { results := [.lit (.bool true)], args := [d] }
  | _ => none }
def fnAndListMatchesModelRow : OpenClaim := { program := "qxb6600390a", sum := "18232ddb123bc0455772c7b4823cadd05828a61bf56724a4da38ad9c526aaa9d", func := "example.com/tuoguan/tuoguan/zzlaws_internal_input_b1.FnAndListMatchesModel", spec := "fnAndListMatchesModel", inPlace := ["internal/abi.NoEscape", "internal/bytealg.MakeNoZero"], apart := false }
def FnAndListMatchesModelSaid : Prop := fnAndListMatchesModelRow.holds Try.pinned (OpenSpec.ofChange fnAndListMatchesModelSpec)

/-- ITS FALSE NEIGHBOUR: 'it returns false'. Refute it at one input. -/
def fnAndListMatchesModelWrong : ChangeSpec := { name := "fnAndListMatchesModel", fn := fun _ => fun
  | [d] => { results := [.lit (.bool false)], args := [d] }
  | _ => none }
def FnAndListMatchesModelWrongFalsely : Prop := fnAndListMatchesModelRow.holds Try.pinned (OpenSpec.ofChange fnAndListMatchesModelWrong)

/-- 'zzlaws_internal_input_b1.FnAndListPeelsFirstName': WHATEVER THE INPUT: true; the input reads as it did. -/
def fnAndListPeelsFirstNameSpec : ChangeSpec := { name := "fnAndListPeelsFirstName", fn := fun _ => fun
  | [d] => { results := [.lit (.bool true)], args := [d] }
  | _ => none }
def fnAndListPeelsFirstNameRow : OpenClaim := { program := "qxb6600390a", sum := "18232ddb123bc0455772c7b4823cadd05828a61bf56724a4da38ad9c526aaa9d", func := "example.com/tuoguan/tuoguan/zzlaws_internal_input_b1.FnAndListPeelsFirstName", spec := "fnAndListPeelsFirstName", inPlace := ["internal/abi.NoEscape", "internal/bytealg.MakeNoZero"], apart := false }
def FnAndListPeelsFirstNameSaid : Prop := fnAndListPeelsFirstNameRow.holds Try.pinned (OpenSpec.ofChange fnAndListPeelsFirstNameSpec)

/-- ITS FALSE NEIGHBOUR: 'it returns false'. Refute it at one input. -/
def fnAndListPeelsFirstNameWrong : ChangeSpec := { name := "fnAndListPeelsFirstName", fn := fun _ => fun
  | [d] => { results := [.lit (.bool false)], args := [d] }
  | _ => none }
def FnAndListPeelsFirstNameWrongFalsely : Prop := fnAndListPeelsFirstNameRow.holds Try.pinned (OpenSpec.ofChange fnAndListPeelsFirstNameWrong)

/-- 'zzlaws_internal_input_b1.FnRowCellsMatchesHeaderModel': WHATEVER THE INPUT: true; the input reads as it did. -/
def fnRowCellsMatchesHeaderModelSpec : ChangeSpec := { name := "fnRowCellsMatchesHeaderModel", fn := fun _ => fun
  | [d1, d2, d3] => { results := [.lit (.bool true)], args := [d1, d2, d3] }
  | _ => none }
def fnRowCellsMatchesHeaderModelRow : OpenClaim := { program := "qxb6600390a", sum := "18232ddb123bc0455772c7b4823cadd05828a61bf56724a4da38ad9c526aaa9d", func := "example.com/tuoguan/tuoguan/zzlaws_internal_input_b1.FnRowCellsMatchesHeaderModel", spec := "fnRowCellsMatchesHeaderModel", apart := false }
def FnRowCellsMatchesHeaderModelSaid : Prop := fnRowCellsMatchesHeaderModelRow.holds Try.pinned (OpenSpec.ofChange fnRowCellsMatchesHeaderModelSpec)

/-- ITS FALSE NEIGHBOUR: 'it returns false'. Refute it at one input. -/
def fnRowCellsMatchesHeaderModelWrong : ChangeSpec := { name := "fnRowCellsMatchesHeaderModel", fn := fun _ => fun
  | [d1, d2, d3] => { results := [.lit (.bool false)], args := [d1, d2, d3] }
  | _ => none }
def FnRowCellsMatchesHeaderModelWrongFalsely : Prop := fnRowCellsMatchesHeaderModelRow.holds Try.pinned (OpenSpec.ofChange fnRowCellsMatchesHeaderModelWrong)

/-- 'zzlaws_internal_input_b1.FnRowCellsAgreesWithGet': WHATEVER THE INPUT: true; the input reads as it did. -/
def fnRowCellsAgreesWithGetSpec : ChangeSpec := { name := "fnRowCellsAgreesWithGet", fn := fun _ => fun
  | [d1, d2, d3, d4] => { results := [.lit (.bool true)], args := [d1, d2, d3, d4] }
  | _ => none }
def fnRowCellsAgreesWithGetRow : OpenClaim := { program := "qxb6600390a", sum := "18232ddb123bc0455772c7b4823cadd05828a61bf56724a4da38ad9c526aaa9d", func := "example.com/tuoguan/tuoguan/zzlaws_internal_input_b1.FnRowCellsAgreesWithGet", spec := "fnRowCellsAgreesWithGet", apart := false }
def FnRowCellsAgreesWithGetSaid : Prop := fnRowCellsAgreesWithGetRow.holds Try.pinned (OpenSpec.ofChange fnRowCellsAgreesWithGetSpec)

/-- ITS FALSE NEIGHBOUR: 'it returns false'. Refute it at one input. -/
def fnRowCellsAgreesWithGetWrong : ChangeSpec := { name := "fnRowCellsAgreesWithGet", fn := fun _ => fun
  | [d1, d2, d3, d4] => { results := [.lit (.bool false)], args := [d1, d2, d3, d4] }
  | _ => none }
def FnRowCellsAgreesWithGetWrongFalsely : Prop := fnRowCellsAgreesWithGetRow.holds Try.pinned (OpenSpec.ofChange fnRowCellsAgreesWithGetWrong)

end Rows
end Go.Proofs.Qxb6600390a
