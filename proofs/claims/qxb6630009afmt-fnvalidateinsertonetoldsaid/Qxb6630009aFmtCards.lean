/-
  DERIVED. GIVEN WITH THE SEED: THE CARDS: each row of Qxb6630009aFmtRows.lean that lists a variable, with what it lists TIED to the program's text (the seventh form; the later family's looks); each row that meets fmt, with fmt's text TOLD by the authors' own Lean function (tested against real Go, not proved from fmt's source: count such statements apart). THE CARD IS WHAT COUNTS. Prove the row's statement (the work); the ties are given (Qxb6630009aFmtTie.lean); close each card by the builder's one call (the guide's Derived/Test/ToyasCard.lean, 'card_holds'). Laid BY PROGRAM, IN A SANDBOX (cutbox-door.mjs). By AI agents, Wed Nov 11 2026. No macro, syntax, notation, axiom, sorry.
-/
import Derived.Test.Qxb6630009aFmtRows
import GoSem.ClaimSeven
namespace Go.Proofs.Qxb6630009aFmt
namespace Rows

/-- THE TOLD CARD OF 'zzlaws_internal_attribute_b1.FnValidateTypeCheckedLikeAName'. -/
def fnValidateTypeCheckedLikeANameCard : Claim7 := { stood := { row := fnValidateTypeCheckedLikeANameRow, standIns := [], harness := (true, "732ab00533d96d7683862e11d3983eaec903bff02e3a9404994d412f8ed96853"), looks := false }, told := true, goes := false }
def FnValidateTypeCheckedLikeANameToldSaid : Prop := Claim7.holds Tryf.pinned (.plain (OpenSpec.ofChange fnValidateTypeCheckedLikeANameSpec)) fnValidateTypeCheckedLikeANameCard
/-- ITS FALSE NEIGHBOUR. Refute it at one input. -/
def FnValidateTypeCheckedLikeANameToldWrongFalsely : Prop := Claim7.holds Tryf.pinned (.plain (OpenSpec.ofChange fnValidateTypeCheckedLikeANameWrong)) fnValidateTypeCheckedLikeANameCard

/-- THE TOLD CARD OF 'zzlaws_internal_attribute_b1.FnValidateInsertOne'. -/
def fnValidateInsertOneCard : Claim7 := { stood := { row := fnValidateInsertOneRow, standIns := [], harness := (true, "732ab00533d96d7683862e11d3983eaec903bff02e3a9404994d412f8ed96853"), looks := false }, told := true, goes := false }
def FnValidateInsertOneToldSaid : Prop := Claim7.holds Tryf.pinned (.plain (OpenSpec.ofChange fnValidateInsertOneSpec)) fnValidateInsertOneCard
/-- ITS FALSE NEIGHBOUR. Refute it at one input. -/
def FnValidateInsertOneToldWrongFalsely : Prop := Claim7.holds Tryf.pinned (.plain (OpenSpec.ofChange fnValidateInsertOneWrong)) fnValidateInsertOneCard
end Rows
end Go.Proofs.Qxb6630009aFmt
