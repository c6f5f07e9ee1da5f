/- Seat b6628959a: what a slice of Mod ¦ Module, of Rep ¦ replacement holds, said of cells; an index into it as one equation. -/
import Derived.Test.Qxb6628959aRows
import Derived.Test.Qxb6628959aPlain
import Derived.WalkKit
import Derived.WalkSpells
import Derived.WalkLawsBesides
namespace Go.Proofs.Qxb6628959a
open Go.RowKit

/-- The slice at 'ao' holds the modules l, two cells each. -/
structure ModsAt (w : World) (ao : Option Addr) (l : List M) (b off : Nat) : Prop where
  addr : 0 < l.length → ao = some ⟨b, off, none⟩
  cells : ∀ k p v, l[k]? = some (p, v) → w.cell? ⟨b, off + k * 2, none⟩ = some (.string p) ∧ w.cell? ⟨b, off + k * 2 + 1, none⟩ = some (.string v)

/-- The slice at 'ao' holds the replacements l, four cells each. -/
structure RepsAt (w : World) (ao : Option Addr) (l : List (M × M)) (b off : Nat) : Prop where
  addr : 0 < l.length → ao = some ⟨b, off, none⟩
  cells : ∀ k p v q u, l[k]? = some ((p, v), (q, u)) → w.cell? ⟨b, off + k * 4, none⟩ = some (.string p) ∧ w.cell? ⟨b, off + k * 4 + 1, none⟩ = some (.string v) ∧
    w.cell? ⟨b, off + k * 4 + 2, none⟩ = some (.string q) ∧ w.cell? ⟨b, off + k * 4 + 3, none⟩ = some (.string u)

theorem ModsAt.below {w w' : World} {ao : Option Addr} {l : List M} {b off B : Nat} (h : ModsAt w ao l b off) (hb : Below B w w') (hB : b < B) : ModsAt w' ao l b off :=
  ⟨h.addr, fun k p v hk => ⟨(hb.cell (p := ⟨b, off + k * 2, none⟩) hB).trans (h.cells k p v hk).1, (hb.cell (p := ⟨b, off + k * 2 + 1, none⟩) hB).trans (h.cells k p v hk).2⟩⟩

theorem RepsAt.below {w w' : World} {ao : Option Addr} {l : List (M × M)} {b off B : Nat} (h : RepsAt w ao l b off) (hb : Below B w w') (hB : b < B) : RepsAt w' ao l b off :=
  ⟨h.addr, fun k p v q u hk => ⟨(hb.cell (p := ⟨b, off + k * 4, none⟩) hB).trans (h.cells k p v q u hk).1, (hb.cell (p := ⟨b, off + k * 4 + 1, none⟩) hB).trans (h.cells k p v q u hk).2.1,
    (hb.cell (p := ⟨b, off + k * 4 + 2, none⟩) hB).trans (h.cells k p v q u hk).2.2.1, (hb.cell (p := ⟨b, off + k * 4 + 3, none⟩) hB).trans (h.cells k p v q u hk).2.2.2⟩⟩

theorem ixAt {t e : TypeId} {ao : Option Addr} {n c b off k sz : Nat} (hk : k < n) (h : ao = some ⟨b, off, none⟩) (hu : Try.prog.underlying t = some (.slice (Try.prog.elem t))) (he : Try.prog.elem t = e)
    (hs : ∀ w, (sizeOf e).run Try.prog w = .ok sz w) (w : World) :
    (Instr.indexAt t (.slice ao n c) (.int .i64 (k : Int))).run Try.prog w = .ok (.pointer (some ⟨b, off + k * sz, none⟩)) w := by
  subst h
  rw [run_indexAt_slice (P := Try.prog) w t _ _ _ _ _ hu, if_pos (by omega), he, hs]
  simp [go_sem]

theorem ix22 {ao : Option Addr} {n c b off k : Nat} (hk : k < n) (h : ao = some ⟨b, off, none⟩) (w : World) :
    (Instr.indexAt 22 (.slice ao n c) (.int .i64 (k : Int))).run Try.prog w = .ok (.pointer (some ⟨b, off + k * 2, none⟩)) w :=
  ixAt (e := 35) hk h (by kernel_rfl) (by kernel_rfl) (fun _ => by kernel_rfl) w
theorem ix23 {ao : Option Addr} {n c b off k : Nat} (hk : k < n) (h : ao = some ⟨b, off, none⟩) (w : World) :
    (Instr.indexAt 23 (.slice ao n c) (.int .i64 (k : Int))).run Try.prog w = .ok (.pointer (some ⟨b, off + k * 4, none⟩)) w :=
  ixAt (e := 44) hk h (by kernel_rfl) (by kernel_rfl) (fun _ => by kernel_rfl) w
theorem ix27 {ao : Option Addr} {n c b off k : Nat} (hk : k < n) (h : ao = some ⟨b, off, none⟩) (w : World) :
    (Instr.indexAt 27 (.slice ao n c) (.int .i64 (k : Int))).run Try.prog w = .ok (.pointer (some ⟨b, off + k * 2, none⟩)) w :=
  ixAt (e := 38) hk h (by kernel_rfl) (by kernel_rfl) (fun _ => by kernel_rfl) w
theorem ix29 {ao : Option Addr} {n c b off k : Nat} (hk : k < n) (h : ao = some ⟨b, off, none⟩) (w : World) :
    (Instr.indexAt 29 (.slice ao n c) (.int .i64 (k : Int))).run Try.prog w = .ok (.pointer (some ⟨b, off + k * 4, none⟩)) w :=
  ixAt (e := 42) hk h (by kernel_rfl) (by kernel_rfl) (fun _ => by kernel_rfl) w

theorem ModsAt.lt {w : World} {ao : Option Addr} {l : List M} {b off : Nat} (h : ModsAt w ao l b off) (hp : 0 < l.length) : b < w.heap.size :=
  World.block_lt_of_cell? _ _ (h.cells 0 (l[0]).1 (l[0]).2 (by simp [hp])).1
theorem RepsAt.lt {w : World} {ao : Option Addr} {l : List (M × M)} {b off : Nat} (h : RepsAt w ao l b off) (hp : 0 < l.length) : b < w.heap.size :=
  World.block_lt_of_cell? _ _ (h.cells 0 (l[0]).1.1 (l[0]).1.2 (l[0]).2.1 (l[0]).2.2 (by simp [hp])).1
/-- What held of a slice holds behind a call that turned nothing old. -/
theorem ModsAt.on {w w' : World} {ao : Option Addr} {l : List M} {b off : Nat} (h : ModsAt w ao l b off) (hb : Below w.heap.size w w') : ModsAt w' ao l b off := by
  by_cases hp : 0 < l.length
  · exact h.below hb (h.lt hp)
  · refine ⟨h.addr, fun k p v hk => ?_⟩
    have : l = [] := List.length_eq_zero_iff.1 (by omega)
    subst this
    simp at hk
theorem RepsAt.on {w w' : World} {ao : Option Addr} {l : List (M × M)} {b off : Nat} (h : RepsAt w ao l b off) (hb : Below w.heap.size w w') : RepsAt w' ao l b off := by
  by_cases hp : 0 < l.length
  · exact h.below hb (h.lt hp)
  · refine ⟨h.addr, fun k p v q u hk => ?_⟩
    have : l = [] := List.length_eq_zero_iff.1 (by omega)
    subst this
    simp at hk

theorem at_mods {l : List M} {k : Nat} (h : k < l.length) : ∃ p v, l[k]? = some (p, v) := ⟨(l[k]).1, (l[k]).2, by simp [h]⟩
theorem at_reps {l : List (M × M)} {k : Nat} (h : k < l.length) : ∃ p v q u, l[k]? = some ((p, v), (q, u)) := ⟨(l[k]).1.1, (l[k]).1.2, (l[k]).2.1, (l[k]).2.2, by simp [h]⟩

end Go.Proofs.Qxb6628959a
