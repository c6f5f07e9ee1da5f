/- Seat b6628959a: the small callees: addStr, addMod, toModule. Each returns; nothing that was there turns. -/
import Derived.Test.Qxb6628959aRows
import Derived.WalkKit
import Derived.WalkSpells
import Derived.WalkLawsBesides
namespace Go.Proofs.Qxb6628959a
open Go.RowKit

set_option maxHeartbeats 400000 in
theorem addStr_any (t : Int) (s : ByteArray) (w : World) :
    Calls Try.prog 14 #[.int .i64 t, .string s] w fun e w' => (∃ r : Int, e = .returned (.int .i64 r)) ∧ w' = w := by
  go_enter Try.func14, Try.ntmps14
  go_wp2
  all_goals (go_ret; exact ⟨⟨_, rfl⟩, rfl⟩)

set_option maxHeartbeats 400000 in
theorem addMod_any (t : Int) (p v : ByteArray) (w : World) :
    Calls Try.prog 12 #[.int .i64 t, .agg #[.string p, .string v]] w fun e w' => (∃ r : Int, e = .returned (.int .i64 r)) ∧ Below w.heap.size w w' := by
  go_enter Try.func12, Try.ntmps12
  go_wp2_with (go_at_call 14; refine (addStr_any _ _ _).mono ?_; rintro e w' ⟨⟨r, rfl⟩, rfl⟩)
  all_goals (go_ret; exact ⟨⟨_, rfl⟩, (Below.refl _ _).alloc (Nat.le_refl _) _⟩)

set_option maxHeartbeats 400000 in
theorem toModule_any (p v : ByteArray) (w : World) :
    Calls Try.prog 13 #[.agg #[.string p, .string v]] w fun e w' => e = .returned (.agg #[.string p, .string v]) ∧ Below w.heap.size w w' := by
  go_enter Try.func13, Try.ntmps13
  go_wp2
  exact bodyPost_ret (v := .agg #[.string p, .string v]) (by simp [results, Try.results13, go_sem]) rfl ⟨rfl, ((Below.refl _ _).alloc (Nat.le_refl _) _).alloc (by simp) _⟩

end Go.Proofs.Qxb6628959a
