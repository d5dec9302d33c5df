/-
  DERIVED. GIVEN WITH THE SEED: THE CARDS: each row of Qxb6616224aFmtRows.lean that lists a variable, with what it lists TIED to the program's text (the seventh form; the later family's looks); each row that meets fmt, with fmt's text TOLD by the authors' own Lean function (tested against real Go, not proved from fmt's source: count such statements apart). THE CARD IS WHAT COUNTS. Prove the row's statement (the work); the ties are given (Qxb6616224aFmtTie.lean); close each card by the builder's one call (the guide's Derived/Test/ToyasCard.lean, 'card_holds'). Laid BY PROGRAM, IN A SANDBOX (cutbox-door.mjs). By AI agents, Wed Nov 11 2026. No macro, syntax, notation, axiom, sorry.
-/
import Derived.Test.Qxb6616224aFmtRows
import GoSem.ClaimSeven
namespace Go.Proofs.Qxb6616224aFmt
namespace Rows

/-- THE TOLD CARD OF 'zzlaws_internal_api_b1.FnValidateRequestRefusesWhatEitherHalfRefuses'. -/
def fnValidateRequestRefusesWhatEitherHalfRefusesCard : Claim7 := { stood := { row := fnValidateRequestRefusesWhatEitherHalfRefusesRow, standIns := [], harness := (true, "be6a021a9ae69999fd3e00d54eed54351aa5325148c93523a3d726c234908977"), looks := false }, told := true, goes := false }
def FnValidateRequestRefusesWhatEitherHalfRefusesToldSaid : Prop := Claim7.holds Tryf.pinned (.plain (OpenSpec.ofChange fnValidateRequestRefusesWhatEitherHalfRefusesSpec)) fnValidateRequestRefusesWhatEitherHalfRefusesCard
/-- ITS FALSE NEIGHBOUR. Refute it at one input. -/
def FnValidateRequestRefusesWhatEitherHalfRefusesToldWrongFalsely : Prop := Claim7.holds Tryf.pinned (.plain (OpenSpec.ofChange fnValidateRequestRefusesWhatEitherHalfRefusesWrong)) fnValidateRequestRefusesWhatEitherHalfRefusesCard

/-- THE TOLD CARD OF 'zzlaws_internal_api_b1.FnValidateRequestTakesAMatchAllTolerationAnywhere'. -/
def fnValidateRequestTakesAMatchAllTolerationAnywhereCard : Claim7 := { stood := { row := fnValidateRequestTakesAMatchAllTolerationAnywhereRow, standIns := [], harness := (true, "be6a021a9ae69999fd3e00d54eed54351aa5325148c93523a3d726c234908977"), looks := false }, told := true, goes := false }
def FnValidateRequestTakesAMatchAllTolerationAnywhereToldSaid : Prop := Claim7.holds Tryf.pinned (.plain (OpenSpec.ofChange fnValidateRequestTakesAMatchAllTolerationAnywhereSpec)) fnValidateRequestTakesAMatchAllTolerationAnywhereCard
/-- ITS FALSE NEIGHBOUR. Refute it at one input. -/
def FnValidateRequestTakesAMatchAllTolerationAnywhereToldWrongFalsely : Prop := Claim7.holds Tryf.pinned (.plain (OpenSpec.ofChange fnValidateRequestTakesAMatchAllTolerationAnywhereWrong)) fnValidateRequestTakesAMatchAllTolerationAnywhereCard
end Rows
end Go.Proofs.Qxb6616224aFmt
