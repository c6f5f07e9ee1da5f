/-
  No cell of these rows narrows 'for every input' (looked for: loops, veiled, ifaces, maps, wideKeys, modest, calm, conditions, laid).
  DERIVED. THE GIVEN ROWS OF THIS SEAT. 2 by the template 'for every input the law returns true; each argument reads behind the call as it read before'; 0 by the template 'total and deterministic' (their statements: Qxb6630060aTotals.lean).
  GIVEN WITH THE SEED: the statements are not yours to turn. If you find one false, say at which input.
  Laid BY PROGRAM, IN A SANDBOX (cutbox-rows.mjs): the forced cells as the released guide's own fill.sh prints them over the translation 02b34ff07e3d2a07… (all of the seat's roots in one cut). By AI agents, Wed Nov 11 2026. No macro, syntax, notation, axiom, sorry.
-/
import Derived.Test.Qxb6630060aChecked
import GoSem.Claim
import GoSem.ClaimJoined
import GoSem.ClaimMapViews
import Derived.JoinedTies
import Derived.KernelRfl
namespace Go.Proofs.Qxb6630060a
/- THE CELL 'sum', in the pinned program and in every row, IS THE sha256 OF THE DUMP (.gsa) THAT Qxb6630060aProg.lean LOADS. Nothing in Lean hashes anything: it is a label: what it is worth is what the hold of that sum in a sandbox is worth. -/
noncomputable def Try.pinned : Pinned := { name := "qxb6630060a", sum := "02b34ff07e3d2a07b3b7b349e046e40bba8bf1c25ede5a3db57f2ffe2f6c858d", checked := Try.checked }
namespace Rows
def none {H : Type} : Left H := { results := [], args := [] }

/-- 'zzlaws_internal_git_b1.FnAppendOffsetVarintDecodesBack': WHATEVER THE INPUT: true; the input reads as it did. -/
def fnAppendOffsetVarintDecodesBackSpec : ChangeSpec := { name := "fnAppendOffsetVarintDecodesBack", fn := fun _ => fun
  | [d1, d2] => { results := [.lit (.bool true)], args := [d1, d2] }
  | _ => none }
def fnAppendOffsetVarintDecodesBackRow : OpenClaim := { program := "qxb6630060a", sum := "02b34ff07e3d2a07b3b7b349e046e40bba8bf1c25ede5a3db57f2ffe2f6c858d", func := "example.com/packtier/packtier/zzlaws_internal_git_b1.FnAppendOffsetVarintDecodesBack", spec := "fnAppendOffsetVarintDecodesBack", apart := false }
def FnAppendOffsetVarintDecodesBackSaid : Prop := fnAppendOffsetVarintDecodesBackRow.holds Try.pinned (OpenSpec.ofChange fnAppendOffsetVarintDecodesBackSpec)

/-- ITS FALSE NEIGHBOUR: 'it returns false'. Refute it at one input. -/
def fnAppendOffsetVarintDecodesBackWrong : ChangeSpec := { name := "fnAppendOffsetVarintDecodesBack", fn := fun _ => fun
  | [d1, d2] => { results := [.lit (.bool false)], args := [d1, d2] }
  | _ => none }
def FnAppendOffsetVarintDecodesBackWrongFalsely : Prop := fnAppendOffsetVarintDecodesBackRow.holds Try.pinned (OpenSpec.ofChange fnAppendOffsetVarintDecodesBackWrong)

/-- 'zzlaws_internal_git_b1.FnAppendOffsetVarintKeepsOrder': WHATEVER THE INPUT: true; the input reads as it did. -/
def fnAppendOffsetVarintKeepsOrderSpec : ChangeSpec := { name := "fnAppendOffsetVarintKeepsOrder", fn := fun _ => fun
  | [d1, d2, d3] => { results := [.lit (.bool true)], args := [d1, d2, d3] }
  | _ => none }
def fnAppendOffsetVarintKeepsOrderRow : OpenClaim := { program := "qxb6630060a", sum := "02b34ff07e3d2a07b3b7b349e046e40bba8bf1c25ede5a3db57f2ffe2f6c858d", func := "example.com/packtier/packtier/zzlaws_internal_git_b1.FnAppendOffsetVarintKeepsOrder", spec := "fnAppendOffsetVarintKeepsOrder", apart := false }
def FnAppendOffsetVarintKeepsOrderSaid : Prop := fnAppendOffsetVarintKeepsOrderRow.holds Try.pinned (OpenSpec.ofChange fnAppendOffsetVarintKeepsOrderSpec)

/-- ITS FALSE NEIGHBOUR: 'it returns false'. Refute it at one input. -/
def fnAppendOffsetVarintKeepsOrderWrong : ChangeSpec := { name := "fnAppendOffsetVarintKeepsOrder", fn := fun _ => fun
  | [d1, d2, d3] => { results := [.lit (.bool false)], args := [d1, d2, d3] }
  | _ => none }
def FnAppendOffsetVarintKeepsOrderWrongFalsely : Prop := fnAppendOffsetVarintKeepsOrderRow.holds Try.pinned (OpenSpec.ofChange fnAppendOffsetVarintKeepsOrderWrong)

end Rows
end Go.Proofs.Qxb6630060a
