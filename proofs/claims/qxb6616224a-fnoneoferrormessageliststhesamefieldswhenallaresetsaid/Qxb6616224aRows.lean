/-
  No cell of these rows narrows 'for every input' (looked for: loops, veiled, ifaces, maps, wideKeys, modest, calm, conditions, laid).
  DERIVED. THE GIVEN ROWS OF THIS SEAT. 2 by the template 'for every input the law returns true; each argument reads behind the call as it read before'; 0 by the template 'total and deterministic' (their statements: Qxb6616224aTotals.lean).
  GIVEN WITH THE SEED: the statements are not yours to turn. If you find one false, say at which input.
  Laid BY PROGRAM, IN A SANDBOX (cutbox-rows.mjs): the forced cells as the released guide's own fill.sh prints them over the translation c5ff07c8ab825151… (all of the seat's roots in one cut). By AI agents, Wed Nov 11 2026. No macro, syntax, notation, axiom, sorry.
-/
import Derived.Test.Qxb6616224aChecked
import GoSem.Claim
import GoSem.ClaimJoined
import GoSem.ClaimMapViews
import Derived.JoinedTies
import Derived.KernelRfl
namespace Go.Proofs.Qxb6616224a
/- THE CELL 'sum', in the pinned program and in every row, IS THE sha256 OF THE DUMP (.gsa) THAT Qxb6616224aProg.lean LOADS. Nothing in Lean hashes anything: it is a label: what it is worth is what the hold of that sum in a sandbox is worth. -/
noncomputable def Try.pinned : Pinned := { name := "qxb6616224a", sum := "c5ff07c8ab825151057a8cfc4c5d26b36afd335bc37b0136affc90aa07188c41", checked := Try.checked }
namespace Rows
def none {H : Type} : Left H := { results := [], args := [] }

/-- 'zzlaws_internal_api_b1.FnOneOfErrorMessageMatchesItsThreeForms': WHATEVER THE INPUT: true; the input reads as it did. -/
def fnOneOfErrorMessageMatchesItsThreeFormsSpec : ChangeSpec := { name := "fnOneOfErrorMessageMatchesItsThreeForms", fn := fun _ => fun
  | [d1, d2, d3, d4] => { results := [.lit (.bool true)], args := [d1, d2, d3, d4] }
  | _ => none }
def fnOneOfErrorMessageMatchesItsThreeFormsRow : OpenClaim := { program := "qxb6616224a", sum := "c5ff07c8ab825151057a8cfc4c5d26b36afd335bc37b0136affc90aa07188c41", func := "example.com/allotrope/allotrope/zzlaws_internal_api_b1.FnOneOfErrorMessageMatchesItsThreeForms", spec := "fnOneOfErrorMessageMatchesItsThreeForms", inPlace := ["internal/abi.NoEscape", "internal/bytealg.MakeNoZero"], unfollowed := true, recurses := true, apart := false }
def FnOneOfErrorMessageMatchesItsThreeFormsSaid : Prop := fnOneOfErrorMessageMatchesItsThreeFormsRow.holds Try.pinned (OpenSpec.ofChange fnOneOfErrorMessageMatchesItsThreeFormsSpec)

/-- ITS FALSE NEIGHBOUR: 'it returns false'. Refute it at one input. -/
def fnOneOfErrorMessageMatchesItsThreeFormsWrong : ChangeSpec := { name := "fnOneOfErrorMessageMatchesItsThreeForms", fn := fun _ => fun
  | [d1, d2, d3, d4] => { results := [.lit (.bool false)], args := [d1, d2, d3, d4] }
  | _ => none }
def FnOneOfErrorMessageMatchesItsThreeFormsWrongFalsely : Prop := fnOneOfErrorMessageMatchesItsThreeFormsRow.holds Try.pinned (OpenSpec.ofChange fnOneOfErrorMessageMatchesItsThreeFormsWrong)

/-- 'zzlaws_internal_api_b1.FnOneOfErrorMessageListsTheSameFieldsWhenAllAreSet': WHATEVER THE INPUT: true; the input reads as it did. -/
def fnOneOfErrorMessageListsTheSameFieldsWhenAllAreSetSpec : ChangeSpec := { name := "fnOneOfErrorMessageListsTheSameFieldsWhenAllAreSet", fn := fun _ => fun
  | [d1, d2, d3] => { results := [.lit (.bool true)], args := [d1, d2, d3] }
  | _ => none }
def fnOneOfErrorMessageListsTheSameFieldsWhenAllAreSetRow : OpenClaim := { program := "qxb6616224a", sum := "c5ff07c8ab825151057a8cfc4c5d26b36afd335bc37b0136affc90aa07188c41", func := "example.com/allotrope/allotrope/zzlaws_internal_api_b1.FnOneOfErrorMessageListsTheSameFieldsWhenAllAreSet", spec := "fnOneOfErrorMessageListsTheSameFieldsWhenAllAreSet", inPlace := ["internal/abi.NoEscape", "internal/bytealg.MakeNoZero"], unfollowed := true, recurses := true, apart := false }
def FnOneOfErrorMessageListsTheSameFieldsWhenAllAreSetSaid : Prop := fnOneOfErrorMessageListsTheSameFieldsWhenAllAreSetRow.holds Try.pinned (OpenSpec.ofChange fnOneOfErrorMessageListsTheSameFieldsWhenAllAreSetSpec)

/-- ITS FALSE NEIGHBOUR: 'it returns false'. Refute it at one input. -/
def fnOneOfErrorMessageListsTheSameFieldsWhenAllAreSetWrong : ChangeSpec := { name := "fnOneOfErrorMessageListsTheSameFieldsWhenAllAreSet", fn := fun _ => fun
  | [d1, d2, d3] => { results := [.lit (.bool false)], args := [d1, d2, d3] }
  | _ => none }
def FnOneOfErrorMessageListsTheSameFieldsWhenAllAreSetWrongFalsely : Prop := fnOneOfErrorMessageListsTheSameFieldsWhenAllAreSetRow.holds Try.pinned (OpenSpec.ofChange fnOneOfErrorMessageListsTheSameFieldsWhenAllAreSetWrong)

end Rows
end Go.Proofs.Qxb6616224a
