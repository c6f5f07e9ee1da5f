/-
  No cell of these rows narrows 'for every input' (looked for: loops, veiled, ifaces, maps, wideKeys, modest, calm, conditions, laid).
  DERIVED. THE GIVEN ROWS OF THIS SEAT. 2 by the template 'for every input the law returns true; each argument reads behind the call as it read before'; 0 by the template 'total and deterministic' (their statements: Qxb6628959aTotals.lean).
  GIVEN WITH THE SEED: the statements are not yours to turn. If you find one false, say at which input.
  Laid BY PROGRAM, IN A SANDBOX (cutbox-rows.mjs): the forced cells as the released guide's own fill.sh prints them over the translation a0d8f29742e93713… (all of the seat's roots in one cut). By AI agents, Wed Nov 11 2026. No macro, syntax, notation, axiom, sorry.
-/
import Derived.Test.Qxb6628959aChecked
import GoSem.Claim
import GoSem.ClaimJoined
import GoSem.ClaimMapViews
import Derived.JoinedTies
import Derived.KernelRfl
namespace Go.Proofs.Qxb6628959a
/- THE CELL 'sum', in the pinned program and in every row, IS THE sha256 OF THE DUMP (.gsa) THAT Qxb6628959aProg.lean LOADS. Nothing in Lean hashes anything: it is a label: what it is worth is what the hold of that sum in a sandbox is worth. -/
noncomputable def Try.pinned : Pinned := { name := "qxb6628959a", sum := "a0d8f29742e937135d66d2bef29dd91cc9d8fd35bf2c2dbd2729d67ab880c9ac", checked := Try.checked }
namespace Rows
def none {H : Type} : Left H := { results := [], args := [] }

/-- 'zzlaws_pkg_gomod_b1.FnDownloadsMatchesModel': WHATEVER THE INPUT: true; the input reads as it did. -/
def fnDownloadsMatchesModelSpec : ChangeSpec := { name := "fnDownloadsMatchesModel", fn := fun _ => fun
  | [d1, d2] => { results := [.lit (.bool true)], args := [d1, d2] }
  | _ => none }
def fnDownloadsMatchesModelRow : OpenClaim := { program := "qxb6628959a", sum := "a0d8f29742e937135d66d2bef29dd91cc9d8fd35bf2c2dbd2729d67ab880c9ac", func := "example.com/lockstep/lockstep/zzlaws_pkg_gomod_b1.FnDownloadsMatchesModel", spec := "fnDownloadsMatchesModel", apart := false }
def FnDownloadsMatchesModelSaid : Prop := fnDownloadsMatchesModelRow.holds Try.pinned (OpenSpec.ofChange fnDownloadsMatchesModelSpec)

/-- ITS FALSE NEIGHBOUR: 'it returns false'. Refute it at one input. -/
def fnDownloadsMatchesModelWrong : ChangeSpec := { name := "fnDownloadsMatchesModel", fn := fun _ => fun
  | [d1, d2] => { results := [.lit (.bool false)], args := [d1, d2] }
  | _ => none }
def FnDownloadsMatchesModelWrongFalsely : Prop := fnDownloadsMatchesModelRow.holds Try.pinned (OpenSpec.ofChange fnDownloadsMatchesModelWrong)

/-- 'zzlaws_pkg_gomod_b1.FnDownloadsFrontExactReplacementWins': WHATEVER THE INPUT: true; the input reads as it did. -/
def fnDownloadsFrontExactReplacementWinsSpec : ChangeSpec := { name := "fnDownloadsFrontExactReplacementWins", fn := fun _ => fun
  | [d1, d2, d3, d4] => { results := [.lit (.bool true)], args := [d1, d2, d3, d4] }
  | _ => none }
def fnDownloadsFrontExactReplacementWinsRow : OpenClaim := { program := "qxb6628959a", sum := "a0d8f29742e937135d66d2bef29dd91cc9d8fd35bf2c2dbd2729d67ab880c9ac", func := "example.com/lockstep/lockstep/zzlaws_pkg_gomod_b1.FnDownloadsFrontExactReplacementWins", spec := "fnDownloadsFrontExactReplacementWins", apart := false }
def FnDownloadsFrontExactReplacementWinsSaid : Prop := fnDownloadsFrontExactReplacementWinsRow.holds Try.pinned (OpenSpec.ofChange fnDownloadsFrontExactReplacementWinsSpec)

/-- ITS FALSE NEIGHBOUR: 'it returns false'. Refute it at one input. -/
def fnDownloadsFrontExactReplacementWinsWrong : ChangeSpec := { name := "fnDownloadsFrontExactReplacementWins", fn := fun _ => fun
  | [d1, d2, d3, d4] => { results := [.lit (.bool false)], args := [d1, d2, d3, d4] }
  | _ => none }
def FnDownloadsFrontExactReplacementWinsWrongFalsely : Prop := fnDownloadsFrontExactReplacementWinsRow.holds Try.pinned (OpenSpec.ofChange fnDownloadsFrontExactReplacementWinsWrong)

end Rows
end Go.Proofs.Qxb6628959a
