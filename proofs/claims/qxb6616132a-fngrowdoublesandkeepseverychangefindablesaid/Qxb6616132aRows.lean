/-
  No cell of these rows narrows 'for every input' (looked for: loops, veiled, ifaces, maps, wideKeys, modest, calm, conditions, laid).
  DERIVED. THE GIVEN ROWS OF THIS SEAT. 3 by the template 'for every input the law returns true; each argument reads behind the call as it read before'; 0 by the template 'total and deterministic' (their statements: Qxb6616132aTotals.lean).
  GIVEN WITH THE SEED: the statements are not yours to turn. If you find one false, say at which input.
  Laid BY PROGRAM, IN A SANDBOX (cutbox-rows.mjs): the forced cells as the released guide's own fill.sh prints them over the translation 939e5c1d2f321b60… (all of the seat's roots in one cut). By AI agents, Wed Nov 11 2026. No macro, syntax, notation, axiom, sorry.
-/
import Derived.Test.Qxb6616132aChecked
import GoSem.Claim
import GoSem.ClaimJoined
import GoSem.ClaimMapViews
import Derived.JoinedTies
import Derived.KernelRfl
namespace Go.Proofs.Qxb6616132a
/- THE CELL 'sum', in the pinned program and in every row, IS THE sha256 OF THE DUMP (.gsa) THAT Qxb6616132aProg.lean LOADS. Nothing in Lean hashes anything: it is a label: what it is worth is what the hold of that sum in a sandbox is worth. -/
noncomputable def Try.pinned : Pinned := { name := "qxb6616132a", sum := "939e5c1d2f321b605ef8422f89edf885e4d2bf6301c113e76694cf032b04b4b6", checked := Try.checked }
namespace Rows
def none {H : Type} : Left H := { results := [], args := [] }

/-- 'zzlaws_internal_lww_b1.FnWinsFoldIsOrderFree': WHATEVER THE INPUT: true; the input reads as it did. -/
def fnWinsFoldIsOrderFreeSpec : ChangeSpec := { name := "fnWinsFoldIsOrderFree", fn := fun _ => fun
  | [d1, d2, d3, d4, d5, d6, d7, d8, d9] => { results := [.lit (.bool true)], args := [d1, d2, d3, d4, d5, d6, d7, d8, d9] }
  | _ => none }
def fnWinsFoldIsOrderFreeRow : OpenClaim := { program := "qxb6616132a", sum := "939e5c1d2f321b605ef8422f89edf885e4d2bf6301c113e76694cf032b04b4b6", func := "example.com/lastword/lastword/zzlaws_internal_lww_b1.FnWinsFoldIsOrderFree", spec := "fnWinsFoldIsOrderFree", apart := false }
def FnWinsFoldIsOrderFreeSaid : Prop := fnWinsFoldIsOrderFreeRow.holds Try.pinned (OpenSpec.ofChange fnWinsFoldIsOrderFreeSpec)

/-- ITS FALSE NEIGHBOUR: 'it returns false'. Refute it at one input. -/
def fnWinsFoldIsOrderFreeWrong : ChangeSpec := { name := "fnWinsFoldIsOrderFree", fn := fun _ => fun
  | [d1, d2, d3, d4, d5, d6, d7, d8, d9] => { results := [.lit (.bool false)], args := [d1, d2, d3, d4, d5, d6, d7, d8, d9] }
  | _ => none }
def FnWinsFoldIsOrderFreeWrongFalsely : Prop := fnWinsFoldIsOrderFreeRow.holds Try.pinned (OpenSpec.ofChange fnWinsFoldIsOrderFreeWrong)

/-- 'zzlaws_internal_lww_b1.FnGrowDoublesAndKeepsEveryChangeFindable': WHATEVER THE INPUT: true; the input reads as it did. -/
def fnGrowDoublesAndKeepsEveryChangeFindableSpec : ChangeSpec := { name := "fnGrowDoublesAndKeepsEveryChangeFindable", fn := fun _ => fun
  | [d1, d2] => { results := [.lit (.bool true)], args := [d1, d2] }
  | _ => none }
def fnGrowDoublesAndKeepsEveryChangeFindableRow : OpenClaim := { program := "qxb6616132a", sum := "939e5c1d2f321b605ef8422f89edf885e4d2bf6301c113e76694cf032b04b4b6", func := "example.com/lastword/lastword/zzlaws_internal_lww_b1.FnGrowDoublesAndKeepsEveryChangeFindable", spec := "fnGrowDoublesAndKeepsEveryChangeFindable", recurses := true, apart := false }
def FnGrowDoublesAndKeepsEveryChangeFindableSaid : Prop := fnGrowDoublesAndKeepsEveryChangeFindableRow.holds Try.pinned (OpenSpec.ofChange fnGrowDoublesAndKeepsEveryChangeFindableSpec)

/-- ITS FALSE NEIGHBOUR: 'it returns false'. Refute it at one input. -/
def fnGrowDoublesAndKeepsEveryChangeFindableWrong : ChangeSpec := { name := "fnGrowDoublesAndKeepsEveryChangeFindable", fn := fun _ => fun
  | [d1, d2] => { results := [.lit (.bool false)], args := [d1, d2] }
  | _ => none }
def FnGrowDoublesAndKeepsEveryChangeFindableWrongFalsely : Prop := fnGrowDoublesAndKeepsEveryChangeFindableRow.holds Try.pinned (OpenSpec.ofChange fnGrowDoublesAndKeepsEveryChangeFindableWrong)

/-- 'zzlaws_internal_lww_b1.FnGrowOccupiesTheSameSlotsWhateverTheOldOrder': WHATEVER THE INPUT: true; the input reads as it did. -/
def fnGrowOccupiesTheSameSlotsWhateverTheOldOrderSpec : ChangeSpec := { name := "fnGrowOccupiesTheSameSlotsWhateverTheOldOrder", fn := fun _ => fun
  | [d1, d2] => { results := [.lit (.bool true)], args := [d1, d2] }
  | _ => none }
def fnGrowOccupiesTheSameSlotsWhateverTheOldOrderRow : OpenClaim := { program := "qxb6616132a", sum := "939e5c1d2f321b605ef8422f89edf885e4d2bf6301c113e76694cf032b04b4b6", func := "example.com/lastword/lastword/zzlaws_internal_lww_b1.FnGrowOccupiesTheSameSlotsWhateverTheOldOrder", spec := "fnGrowOccupiesTheSameSlotsWhateverTheOldOrder", apart := false }
def FnGrowOccupiesTheSameSlotsWhateverTheOldOrderSaid : Prop := fnGrowOccupiesTheSameSlotsWhateverTheOldOrderRow.holds Try.pinned (OpenSpec.ofChange fnGrowOccupiesTheSameSlotsWhateverTheOldOrderSpec)

/-- ITS FALSE NEIGHBOUR: 'it returns false'. Refute it at one input. -/
def fnGrowOccupiesTheSameSlotsWhateverTheOldOrderWrong : ChangeSpec := { name := "fnGrowOccupiesTheSameSlotsWhateverTheOldOrder", fn := fun _ => fun
  | [d1, d2] => { results := [.lit (.bool false)], args := [d1, d2] }
  | _ => none }
def FnGrowOccupiesTheSameSlotsWhateverTheOldOrderWrongFalsely : Prop := fnGrowOccupiesTheSameSlotsWhateverTheOldOrderRow.holds Try.pinned (OpenSpec.ofChange fnGrowOccupiesTheSameSlotsWhateverTheOldOrderWrong)

end Rows
end Go.Proofs.Qxb6616132a
