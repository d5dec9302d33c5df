/-
  No cell of these rows narrows 'for every input' (looked for: loops, veiled, ifaces, maps, wideKeys, modest, calm, conditions, laid).
  DERIVED. THE GIVEN ROWS OF THIS SEAT. 2 by the template 'for every input the law returns true; each argument reads behind the call as it read before'; 0 by the template 'total and deterministic' (their statements: Qxb6616224aFmtTotals.lean).
  GIVEN WITH THE SEED: the statements are not yours to turn. If you find one false, say at which input.
  Laid BY PROGRAM, IN A SANDBOX (cutbox-rows.mjs): the forced cells as the released guide's own fill.sh prints them over the translation dbe6522eddf17a2c… (all of the seat's roots in one cut). By AI agents, Wed Nov 11 2026. No macro, syntax, notation, axiom, sorry.
-/
import Derived.Test.Qxb6616224aFmtChecked
import GoSem.Claim
import GoSem.ClaimJoined
import GoSem.ClaimMapViews
import Derived.JoinedTies
import Derived.KernelRfl
namespace Go.Proofs.Qxb6616224aFmt
/- THE CELL 'sum', in the pinned program and in every row, IS THE sha256 OF THE DUMP (.gsa) THAT Qxb6616224aFmtProg.lean LOADS. Nothing in Lean hashes anything: it is a label: what it is worth is what the hold of that sum in a sandbox is worth. -/
noncomputable def Tryf.pinned : Pinned := { name := "qxb6616224afmt", sum := "dbe6522eddf17a2caa957e8a36d1e2e3fd589fa95e8a00c40aed938148a79642", checked := Tryf.checked }
namespace Rows
def none {H : Type} : Left H := { results := [], args := [] }

/-- 'zzlaws_internal_api_b1.FnValidateRequestRefusesWhatEitherHalfRefuses': WHATEVER THE INPUT: true; the input reads as it did. -/
def fnValidateRequestRefusesWhatEitherHalfRefusesSpec : ChangeSpec := { name := "fnValidateRequestRefusesWhatEitherHalfRefuses", fn := fun _ => fun
  | [d1, d2, d3] => { results := [.lit (.bool true)], args := [d1, d2, d3] }
  | _ => none }
def fnValidateRequestRefusesWhatEitherHalfRefusesRow : OpenClaim := { program := "qxb6616224afmt", sum := "dbe6522eddf17a2caa957e8a36d1e2e3fd589fa95e8a00c40aed938148a79642", func := "example.com/allotrope/allotrope/zzlaws_internal_api_b1.FnValidateRequestRefusesWhatEitherHalfRefuses", spec := "fnValidateRequestRefusesWhatEitherHalfRefuses", stops := ["fmt.Sprintf"], inPlace := ["fmt.Sprintf"], apart := false }
/-- NO THEOREM (fmt's text is open here; it may be false): for the released tool's asking of the row's closed facts alone. THE STATEMENT IS 'FnValidateRequestRefusesWhatEitherHalfRefusesToldSaid' (Qxb6616224aFmtCards.lean). -/
def FnValidateRequestRefusesWhatEitherHalfRefusesFormAsk : Prop := fnValidateRequestRefusesWhatEitherHalfRefusesRow.holds Tryf.pinned (OpenSpec.ofChange fnValidateRequestRefusesWhatEitherHalfRefusesSpec)

/-- ITS FALSE NEIGHBOUR: 'it returns false'. Refute it at one input. -/
def fnValidateRequestRefusesWhatEitherHalfRefusesWrong : ChangeSpec := { name := "fnValidateRequestRefusesWhatEitherHalfRefuses", fn := fun _ => fun
  | [d1, d2, d3] => { results := [.lit (.bool false)], args := [d1, d2, d3] }
  | _ => none }
def FnValidateRequestRefusesWhatEitherHalfRefusesWrongFormAsk : Prop := fnValidateRequestRefusesWhatEitherHalfRefusesRow.holds Tryf.pinned (OpenSpec.ofChange fnValidateRequestRefusesWhatEitherHalfRefusesWrong)

/-- 'zzlaws_internal_api_b1.FnValidateRequestTakesAMatchAllTolerationAnywhere': WHATEVER THE INPUT: true; the input reads as it did. -/
def fnValidateRequestTakesAMatchAllTolerationAnywhereSpec : ChangeSpec := { name := "fnValidateRequestTakesAMatchAllTolerationAnywhere", fn := fun _ => fun
  | [d1, d2, d3, d4, d5] => { results := [.lit (.bool true)], args := [d1, d2, d3, d4, d5] }
  | _ => none }
def fnValidateRequestTakesAMatchAllTolerationAnywhereRow : OpenClaim := { program := "qxb6616224afmt", sum := "dbe6522eddf17a2caa957e8a36d1e2e3fd589fa95e8a00c40aed938148a79642", func := "example.com/allotrope/allotrope/zzlaws_internal_api_b1.FnValidateRequestTakesAMatchAllTolerationAnywhere", spec := "fnValidateRequestTakesAMatchAllTolerationAnywhere", stops := ["fmt.Sprintf"], inPlace := ["fmt.Sprintf"], apart := false }
/-- NO THEOREM (fmt's text is open here; it may be false): for the released tool's asking of the row's closed facts alone. THE STATEMENT IS 'FnValidateRequestTakesAMatchAllTolerationAnywhereToldSaid' (Qxb6616224aFmtCards.lean). -/
def FnValidateRequestTakesAMatchAllTolerationAnywhereFormAsk : Prop := fnValidateRequestTakesAMatchAllTolerationAnywhereRow.holds Tryf.pinned (OpenSpec.ofChange fnValidateRequestTakesAMatchAllTolerationAnywhereSpec)

/-- ITS FALSE NEIGHBOUR: 'it returns false'. Refute it at one input. -/
def fnValidateRequestTakesAMatchAllTolerationAnywhereWrong : ChangeSpec := { name := "fnValidateRequestTakesAMatchAllTolerationAnywhere", fn := fun _ => fun
  | [d1, d2, d3, d4, d5] => { results := [.lit (.bool false)], args := [d1, d2, d3, d4, d5] }
  | _ => none }
def FnValidateRequestTakesAMatchAllTolerationAnywhereWrongFormAsk : Prop := fnValidateRequestTakesAMatchAllTolerationAnywhereRow.holds Tryf.pinned (OpenSpec.ofChange fnValidateRequestTakesAMatchAllTolerationAnywhereWrong)

end Rows
end Go.Proofs.Qxb6616224aFmt
