/- Seat b6630009aF: the closed facts for a walk over the stopped fmt.errorf (function 23), and fmt.Errorf by its contract. -/
import Derived.Test.Qxb6630009aFmtRows
import Derived.Stop.CallBack
import Derived.Stop.IfaceNil
import Derived.WalkKit
import Derived.WalkSpells
import Derived.WalkLawsBesides
import GoSem.ClaimData
namespace Go.Proofs.Qxb6630009aFmt
open Go.RowKit Go.Extern.Stop Go.Stop Go.Extern

@[go_sem] theorem call23 (args : Array Value) (w : World) : (callFunc 23 args).run Tryf.prog w = ((FmtStop.errorf #[9, 39] #[33] args).run Tryf.prog w).andThen fun v w' => .ok (.value v) w' :=
  run_callFunc_extern Tryf.func23 (by kernel_rfl) (by kernel_rfl) (by kernel_rfl) (by kernel_rfl) args w
@[go_sem] theorem guardT (name : String) (w : World) : (FmtStop.guard name).run Tryf.prog w = .ok () w := by kernel_rfl

def shape9 : List UInt8 := [12, 6, 0, 0, 0, 0, 0, 0, 0, 115, 116, 114, 105, 110, 103]
@[go_sem] theorem op9_115w (name : String) (x : ByteArray) (w : World) : (FmtStop.operand name true 115 false (.iface 9 (.string x))).run Tryf.prog w = .ok (shape9, FmtStop.pack x.data.toList) w := by kernel_rfl
@[go_sem] theorem op9_113w (name : String) (x : ByteArray) (w : World) : (FmtStop.operand name true 113 false (.iface 9 (.string x))).run Tryf.prog w = .ok (shape9, FmtStop.pack x.data.toList) w := by kernel_rfl
def shape3 : List UInt8 := [5, 3, 0, 0, 0, 0, 0, 0, 0, 105, 110, 116]
@[go_sem] theorem op3_100w (name : String) (x : Int) (w : World) : (FmtStop.operand name true 100 false (.iface 3 (.int .i64 x))).run Tryf.prog w = .ok (shape3, Go.Extern.Stop.digits 8 (x % 2 ^ 64).toNat) w := by kernel_rfl
@[go_sem] theorem ptr41 (w : World) : (FmtStop.ptrTo "errors.errorString").run Tryf.prog w = .ok 41 w := by kernel_rfl
@[go_sem] theorem elem41 (w : World) : (elemOf 41).run Tryf.prog w = .ok 43 w := by kernel_rfl

set_option maxHeartbeats 400000 in
theorem errorf2 (F : Interp) (fm part s : ByteArray) (blk : Nat) (w : World) (hF : F.answers w.tape) (hp : ∀ w, (FmtDoors.printed fm 2).run Tryf.prog w = .ok [(0, 115, false), (1, 113, false)] w)
    (hc0 : w.cell? ⟨blk, 0, none⟩ = some (.iface 9 (.string part))) (hc1 : w.cell? ⟨blk, 1, none⟩ = some (.iface 9 (.string s))) :
    Calls Tryf.prog 20 #[.string fm, .slice (some ⟨blk, 0, none⟩) 2 2] w fun e w' => e = .returned (.iface 41 (.pointer (some ⟨w.heap.size, 0, none⟩))) ∧ Below w.heap.size w w' := by
  have hF' := answers_open hF
  go_enter Tryf.func20, Tryf.ntmps20
  go_wp2
  go_ret
  exact ⟨rfl, ((Below.refl _ _).alloc (Nat.le_refl _) _).drew⟩

set_option maxHeartbeats 400000 in
theorem errorf3 (F : Interp) (fm part s : ByteArray) (n : Int) (blk : Nat) (w : World) (hF : F.answers w.tape) (hp : ∀ w, (FmtDoors.printed fm 3).run Tryf.prog w = .ok [(0, 115, false), (1, 113, false), (2, 100, false)] w)
    (hc0 : w.cell? ⟨blk, 0, none⟩ = some (.iface 9 (.string part))) (hc1 : w.cell? ⟨blk, 1, none⟩ = some (.iface 9 (.string s))) (hc2 : w.cell? ⟨blk, 2, none⟩ = some (.iface 3 (.int .i64 n))) :
    Calls Tryf.prog 20 #[.string fm, .slice (some ⟨blk, 0, none⟩) 3 3] w fun e w' => e = .returned (.iface 41 (.pointer (some ⟨w.heap.size, 0, none⟩))) ∧ Below w.heap.size w w' := by
  have hF' := answers_open hF
  go_enter Tryf.func20, Tryf.ntmps20
  go_wp2
  go_ret
  exact ⟨rfl, ((Below.refl _ _).alloc (Nat.le_refl _) _).drew⟩

end Go.Proofs.Qxb6630009aFmt
