/-
  No cell of these rows narrows 'for every input' (looked for: loops, veiled, ifaces, maps, wideKeys, modest, calm, conditions, laid).
  DERIVED. THE GIVEN ROWS OF THIS SEAT. 2 by the template 'for every input the law returns true; each argument reads behind the call as it read before'; 0 by the template 'total and deterministic' (their statements: Qxb6630009aFmtTotals.lean).
  GIVEN WITH THE SEED: the statements are not yours to turn. If you find one false, say at which input.
  Laid BY PROGRAM, IN A SANDBOX (cutbox-rows.mjs): the forced cells as the released guide's own fill.sh prints them over the translation ea5173c30ac46883… (all of the seat's roots in one cut). By AI agents, Wed Nov 11 2026. No macro, syntax, notation, axiom, sorry.
-/
import Derived.Test.Qxb6630009aFmtChecked
import GoSem.Claim
import GoSem.ClaimJoined
import GoSem.ClaimMapViews
import Derived.JoinedTies
import Derived.KernelRfl
namespace Go.Proofs.Qxb6630009aFmt
/- THE CELL 'sum', in the pinned program and in every row, IS THE sha256 OF THE DUMP (.gsa) THAT Qxb6630009aFmtProg.lean LOADS. Nothing in Lean hashes anything: it is a label: what it is worth is what the hold of that sum in a sandbox is worth. -/
noncomputable def Tryf.pinned : Pinned := { name := "qxb6630009afmt", sum := "ea5173c30ac46883f3e4a467daa45ac5a705ada258d1810d058eb5976d581ca4", checked := Tryf.checked }
namespace Rows
def none {H : Type} : Left H := { results := [], args := [] }

/-- 'zzlaws_internal_attribute_b1.FnValidateTypeCheckedLikeAName': WHATEVER THE INPUT: true; the input reads as it did. -/
def fnValidateTypeCheckedLikeANameSpec : ChangeSpec := { name := "fnValidateTypeCheckedLikeAName", fn := fun _ => fun
  | [d1, d2, d3] => { results := [.lit (.bool true)], args := [d1, d2, d3] }
  | _ => none }
def fnValidateTypeCheckedLikeANameRow : OpenClaim := { program := "qxb6630009afmt", sum := "ea5173c30ac46883f3e4a467daa45ac5a705ada258d1810d058eb5976d581ca4", func := "example.com/check-by-relation/check-by-relation/zzlaws_internal_attribute_b1.FnValidateTypeCheckedLikeAName", spec := "fnValidateTypeCheckedLikeAName", stops := ["fmt.errorf"], inPlace := ["fmt.errorf"], apart := false }
/-- NO THEOREM (fmt's text is open here; it may be false): for the released tool's asking of the row's closed facts alone. THE STATEMENT IS 'FnValidateTypeCheckedLikeANameToldSaid' (Qxb6630009aFmtCards.lean). -/
def FnValidateTypeCheckedLikeANameFormAsk : Prop := fnValidateTypeCheckedLikeANameRow.holds Tryf.pinned (OpenSpec.ofChange fnValidateTypeCheckedLikeANameSpec)

/-- ITS FALSE NEIGHBOUR: 'it returns false'. Refute it at one input. -/
def fnValidateTypeCheckedLikeANameWrong : ChangeSpec := { name := "fnValidateTypeCheckedLikeAName", fn := fun _ => fun
  | [d1, d2, d3] => { results := [.lit (.bool false)], args := [d1, d2, d3] }
  | _ => none }
def FnValidateTypeCheckedLikeANameWrongFormAsk : Prop := fnValidateTypeCheckedLikeANameRow.holds Tryf.pinned (OpenSpec.ofChange fnValidateTypeCheckedLikeANameWrong)

/-- 'zzlaws_internal_attribute_b1.FnValidateInsertOne': WHATEVER THE INPUT: true; the input reads as it did. -/
def fnValidateInsertOneSpec : ChangeSpec := { name := "fnValidateInsertOne", fn := fun _ => fun
  | [d1, d2, d3, d4, d5, d6, d7] => { results := [.lit (.bool true)], args := [d1, d2, d3, d4, d5, d6, d7] }
  | _ => none }
def fnValidateInsertOneRow : OpenClaim := { program := "qxb6630009afmt", sum := "ea5173c30ac46883f3e4a467daa45ac5a705ada258d1810d058eb5976d581ca4", func := "example.com/check-by-relation/check-by-relation/zzlaws_internal_attribute_b1.FnValidateInsertOne", spec := "fnValidateInsertOne", stops := ["fmt.errorf"], inPlace := ["fmt.errorf"], apart := false }
/-- NO THEOREM (fmt's text is open here; it may be false): for the released tool's asking of the row's closed facts alone. THE STATEMENT IS 'FnValidateInsertOneToldSaid' (Qxb6630009aFmtCards.lean). -/
def FnValidateInsertOneFormAsk : Prop := fnValidateInsertOneRow.holds Tryf.pinned (OpenSpec.ofChange fnValidateInsertOneSpec)

/-- ITS FALSE NEIGHBOUR: 'it returns false'. Refute it at one input. -/
def fnValidateInsertOneWrong : ChangeSpec := { name := "fnValidateInsertOne", fn := fun _ => fun
  | [d1, d2, d3, d4, d5, d6, d7] => { results := [.lit (.bool false)], args := [d1, d2, d3, d4, d5, d6, d7] }
  | _ => none }
def FnValidateInsertOneWrongFormAsk : Prop := fnValidateInsertOneRow.holds Tryf.pinned (OpenSpec.ofChange fnValidateInsertOneWrong)

end Rows
end Go.Proofs.Qxb6630009aFmt
