/-
  No cell of these rows narrows 'for every input' (looked for: loops, veiled, ifaces, maps, wideKeys, modest, calm, conditions, laid).
  DERIVED. THE GIVEN ROWS OF THIS SEAT. 2 by the template 'for every input the law returns true; each argument reads behind the call as it read before'; 0 by the template 'total and deterministic' (their statements: Qxb6630088aTotals.lean).
  GIVEN WITH THE SEED: the statements are not yours to turn. If you find one false, say at which input.
  Laid BY PROGRAM, IN A SANDBOX (cutbox-rows.mjs): the forced cells as the released guide's own fill.sh prints them over the translation c6d9d1b8945a456e… (all of the seat's roots in one cut). By AI agents, Wed Nov 11 2026. No macro, syntax, notation, axiom, sorry.
-/
import Derived.Test.Qxb6630088aChecked
import GoSem.Claim
import GoSem.ClaimJoined
import GoSem.ClaimMapViews
import Derived.JoinedTies
import Derived.KernelRfl
namespace Go.Proofs.Qxb6630088a
/- THE CELL 'sum', in the pinned program and in every row, IS THE sha256 OF THE DUMP (.gsa) THAT Qxb6630088aProg.lean LOADS. Nothing in Lean hashes anything: it is a label: what it is worth is what the hold of that sum in a sandbox is worth. -/
noncomputable def Try.pinned : Pinned := { name := "qxb6630088a", sum := "c6d9d1b8945a456e3e4d2da16b4a727b8f851ef464e08b80791f9ca38ded25c6", checked := Try.checked }
namespace Rows
def none {H : Type} : Left H := { results := [], args := [] }

/-- 'zzlaws_internal_strictjson_b1.FnPeekAgreesWithAnyPrefixAndNamesTheByte': WHATEVER THE INPUT: true; the input reads as it did. -/
def fnPeekAgreesWithAnyPrefixAndNamesTheByteSpec : ChangeSpec := { name := "fnPeekAgreesWithAnyPrefixAndNamesTheByte", fn := fun _ => fun
  | [d1, d2, d3] => { results := [.lit (.bool true)], args := [d1, d2, d3] }
  | _ => none }
def fnPeekAgreesWithAnyPrefixAndNamesTheByteRow : OpenClaim := { program := "qxb6630088a", sum := "c6d9d1b8945a456e3e4d2da16b4a727b8f851ef464e08b80791f9ca38ded25c6", func := "example.com/libtally/libtally/zzlaws_internal_strictjson_b1.FnPeekAgreesWithAnyPrefixAndNamesTheByte", spec := "fnPeekAgreesWithAnyPrefixAndNamesTheByte", apart := false }
def FnPeekAgreesWithAnyPrefixAndNamesTheByteSaid : Prop := fnPeekAgreesWithAnyPrefixAndNamesTheByteRow.holds Try.pinned (OpenSpec.ofChange fnPeekAgreesWithAnyPrefixAndNamesTheByteSpec)

/-- ITS FALSE NEIGHBOUR: 'it returns false'. Refute it at one input. -/
def fnPeekAgreesWithAnyPrefixAndNamesTheByteWrong : ChangeSpec := { name := "fnPeekAgreesWithAnyPrefixAndNamesTheByte", fn := fun _ => fun
  | [d1, d2, d3] => { results := [.lit (.bool false)], args := [d1, d2, d3] }
  | _ => none }
def FnPeekAgreesWithAnyPrefixAndNamesTheByteWrongFalsely : Prop := fnPeekAgreesWithAnyPrefixAndNamesTheByteRow.holds Try.pinned (OpenSpec.ofChange fnPeekAgreesWithAnyPrefixAndNamesTheByteWrong)

/-- 'zzlaws_internal_strictjson_b1.FnPeekStopsAtFirstNonSpaceAndIsIdempotent': WHATEVER THE INPUT: true; the input reads as it did. -/
def fnPeekStopsAtFirstNonSpaceAndIsIdempotentSpec : ChangeSpec := { name := "fnPeekStopsAtFirstNonSpaceAndIsIdempotent", fn := fun _ => fun
  | [d1, d2] => { results := [.lit (.bool true)], args := [d1, d2] }
  | _ => none }
def fnPeekStopsAtFirstNonSpaceAndIsIdempotentRow : OpenClaim := { program := "qxb6630088a", sum := "c6d9d1b8945a456e3e4d2da16b4a727b8f851ef464e08b80791f9ca38ded25c6", func := "example.com/libtally/libtally/zzlaws_internal_strictjson_b1.FnPeekStopsAtFirstNonSpaceAndIsIdempotent", spec := "fnPeekStopsAtFirstNonSpaceAndIsIdempotent", apart := false }
def FnPeekStopsAtFirstNonSpaceAndIsIdempotentSaid : Prop := fnPeekStopsAtFirstNonSpaceAndIsIdempotentRow.holds Try.pinned (OpenSpec.ofChange fnPeekStopsAtFirstNonSpaceAndIsIdempotentSpec)

/-- ITS FALSE NEIGHBOUR: 'it returns false'. Refute it at one input. -/
def fnPeekStopsAtFirstNonSpaceAndIsIdempotentWrong : ChangeSpec := { name := "fnPeekStopsAtFirstNonSpaceAndIsIdempotent", fn := fun _ => fun
  | [d1, d2] => { results := [.lit (.bool false)], args := [d1, d2] }
  | _ => none }
def FnPeekStopsAtFirstNonSpaceAndIsIdempotentWrongFalsely : Prop := fnPeekStopsAtFirstNonSpaceAndIsIdempotentRow.holds Try.pinned (OpenSpec.ofChange fnPeekStopsAtFirstNonSpaceAndIsIdempotentWrong)

end Rows
end Go.Proofs.Qxb6630088a
