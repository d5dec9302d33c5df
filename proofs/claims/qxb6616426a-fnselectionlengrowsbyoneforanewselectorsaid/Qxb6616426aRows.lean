/-
  No cell of these rows narrows 'for every input' (looked for: loops, veiled, ifaces, maps, wideKeys, modest, calm, conditions, laid).
  DERIVED. THE GIVEN ROWS OF THIS SEAT. 1 by the template 'for every input the law returns true; each argument reads behind the call as it read before'; 0 by the template 'total and deterministic' (their statements: Qxb6616426aTotals.lean).
  GIVEN WITH THE SEED: the statements are not yours to turn. If you find one false, say at which input.
  Laid BY PROGRAM, IN A SANDBOX (cutbox-rows.mjs): the forced cells as the released guide's own fill.sh prints them over the translation 99a12c54041c7e32… (all of the seat's roots in one cut). By AI agents, Wed Nov 11 2026. No macro, syntax, notation, axiom, sorry.
-/
import Derived.Test.Qxb6616426aChecked
import GoSem.Claim
import GoSem.ClaimJoined
import GoSem.ClaimMapViews
import Derived.JoinedTies
import Derived.KernelRfl
namespace Go.Proofs.Qxb6616426a
/- THE CELL 'sum', in the pinned program and in every row, IS THE sha256 OF THE DUMP (.gsa) THAT Qxb6616426aProg.lean LOADS. Nothing in Lean hashes anything: it is a label: what it is worth is what the hold of that sum in a sandbox is worth. -/
noncomputable def Try.pinned : Pinned := { name := "qxb6616426a", sum := "99a12c54041c7e32abce045391ccd3b9f1622240453f84306104f002cc1374ef", checked := Try.checked }
namespace Rows
def none {H : Type} : Left H := { results := [], args := [] }

/-- 'zzlaws_internal_store_b1.FnSelectionLenGrowsByOneForANewSelector': WHATEVER THE INPUT: true; the input reads as it did. -/
def fnSelectionLenGrowsByOneForANewSelectorSpec : ChangeSpec := { name := "fnSelectionLenGrowsByOneForANewSelector", fn := fun _ => fun
  | [d1, d2, d3, d4] => { results := [.lit (.bool true)], args := [d1, d2, d3, d4] }
  | _ => none }
def fnSelectionLenGrowsByOneForANewSelectorRow : OpenClaim := { program := "qxb6616426a", sum := "99a12c54041c7e32abce045391ccd3b9f1622240453f84306104f002cc1374ef", func := "example.com/watchline/watchline/zzlaws_internal_store_b1.FnSelectionLenGrowsByOneForANewSelector", spec := "fnSelectionLenGrowsByOneForANewSelector", apart := false }
def FnSelectionLenGrowsByOneForANewSelectorSaid : Prop := fnSelectionLenGrowsByOneForANewSelectorRow.holds Try.pinned (OpenSpec.ofChange fnSelectionLenGrowsByOneForANewSelectorSpec)

/-- ITS FALSE NEIGHBOUR: 'it returns false'. Refute it at one input. -/
def fnSelectionLenGrowsByOneForANewSelectorWrong : ChangeSpec := { name := "fnSelectionLenGrowsByOneForANewSelector", fn := fun _ => fun
  | [d1, d2, d3, d4] => { results := [.lit (.bool false)], args := [d1, d2, d3, d4] }
  | _ => none }
def FnSelectionLenGrowsByOneForANewSelectorWrongFalsely : Prop := fnSelectionLenGrowsByOneForANewSelectorRow.holds Try.pinned (OpenSpec.ofChange fnSelectionLenGrowsByOneForANewSelectorWrong)

end Rows
end Go.Proofs.Qxb6616426a
