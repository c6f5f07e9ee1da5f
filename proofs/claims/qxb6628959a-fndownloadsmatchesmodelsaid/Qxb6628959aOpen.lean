/- Seat b6628959a: what can be read of the arguments, said of cells. -/
import Derived.Test.Qxb6628959aBase
import Derived.ProofKit
import Derived.Deep.Slices
namespace Go.Proofs.Qxb6628959a
open Go.ChangeShapes Go.WideShapes Go.ChangeAt Go.RowKit Go.Deep

theorem cells9 : Try.prog.cellsOf 9 = 1 := by kernel_rfl
theorem cells35 : Try.prog.cellsOf 35 = 2 := by kernel_rfl
theorem cells44 : Try.prog.cellsOf 44 = 4 := by kernel_rfl

section
variable {H : Type} {enc : TypeId × Value → H} {w : World} {base : Nat} {spare : Nat → Bool} {held : Bool}

theorem list2 {α : Type} {l : List α} (h : l.length = 2) : ∃ a b, l = [a, b] := by
  match l, h with
  | [a, b], _ => exact ⟨a, b, rfl⟩
theorem list4 {α : Type} {l : List α} (h : l.length = 4) : ∃ a b c d, l = [a, b, c, d] := by
  match l, h with
  | [a, b, c, d], _ => exact ⟨a, b, c, d, rfl⟩

theorem open35 {fuel : Nat} {cs : List Value} {x : DataW H × List MemPlace} (h : DataW.trod enc Try.prog w base spare held fuel 35 cs = some x) : ∃ p v : ByteArray, cs = [.string p, .string v] := by
  obtain ⟨y0, y1, n, _, hl, h0, h1⟩ := trod_struct2 Try.underlying35 h
  rw [cells35] at hl
  obtain ⟨a, b, rfl⟩ := list2 hl
  obtain ⟨p, hp, _⟩ := DataW.trod_string Try.underlying9 h0
  obtain ⟨v, hv, _⟩ := DataW.trod_string Try.underlying9 h1
  simp [cells9] at hp hv
  exact ⟨p, v, by rw [hp, hv]⟩

theorem open44 {fuel : Nat} {cs : List Value} {x : DataW H × List MemPlace} (h : DataW.trod enc Try.prog w base spare held fuel 44 cs = some x) : ∃ p v q u : ByteArray, cs = [.string p, .string v, .string q, .string u] := by
  obtain ⟨y0, y1, n, _, hl, h0, h1⟩ := trod_struct2 Try.underlying44 h
  rw [cells44] at hl
  obtain ⟨a, b, c, d, rfl⟩ := list4 hl
  obtain ⟨p, v, hp⟩ := open35 h0
  obtain ⟨q, u, hq⟩ := open35 h1
  simp [cells35] at hp hq
  exact ⟨p, v, q, u, by rw [hp.1, hp.2, hq.1, hq.2]⟩

theorem at_range {α : Type} {n k : Nat} {f : Nat → α} {x : α} (h : ((List.range n).map f)[k]? = some x) : k < n ∧ f k = x := by
  rw [List.getElem?_map] at h
  by_cases hk : k < n
  · rw [List.getElem?_range hk] at h
    simp at h
    exact ⟨hk, h⟩
  · rw [List.getElem?_eq_none (by simp; omega)] at h
    simp at h

theorem open22 {fuel : Nat} {a0 : Option Addr} {len cap : Nat} {x : DataW H × List MemPlace} (h : DataW.trod enc Try.prog w 0 (fun _ => true) true fuel 22 [.slice a0 len cap] = some x) :
    ∃ (l : List M) (b off : Nat), l.length = len ∧ ModsAt w a0 l b off ∧ (a0 = none → len = 0 ∧ cap = 0) := by
  rcases open_slice Try.underlying22 h with ⟨hcs, _⟩ | ⟨a, len', cap', m, n, D, Pl, hcs, _, hl, _, hm, _, hx⟩
  · simp at hcs
    obtain ⟨rfl, rfl, rfl⟩ := hcs
    exact ⟨[], 0, 0, rfl, ⟨fun h => by simp at h, fun k p v hk => by simp at hk⟩, fun _ => ⟨rfl, rfl⟩⟩
  · simp at hcs
    obtain ⟨rfl, rfl, rfl⟩ := hcs
    simp at hm
    subst hm
    have each : ∀ i, i < len → ∃ q : M, w.cell? (a.add (i * 2)) = some (.string q.1) ∧ w.cell? (a.add (i * 2 + 1)) = some (.string q.2) := by
      intro i hi
      obtain ⟨cs', h1, h2⟩ := hx i (by omega)
      obtain ⟨p, v, rfl⟩ := open35 h2
      rw [cells35] at h1
      obtain ⟨_, _, hc⟩ := World.cells?_some h1
      have e0 := hc 0 (by omega)
      have e1 := hc 1 (by omega)
      rw [add_add] at e0 e1
      exact ⟨(p, v), by simpa using e0, by simpa using e1⟩
    obtain ⟨q, hq⟩ := choose_lt (α := M) each
    refine ⟨(List.range len).map q, a.block, a.off, by simp, ?_, fun h => by cases h⟩
    have hsp : 0 < len → a.spot = none := fun hp => by
      have := World.cell?_spot (hq 0 hp).1
      simpa [Addr.add] using this
    obtain ⟨b, off, spot⟩ := a
    refine ⟨fun hp => ?_, fun k p v hk => ?_⟩
    · simp at hp
      simpa using hsp hp
    · obtain ⟨hk1, hk2⟩ := at_range hk
      obtain rfl : spot = none := hsp (by omega)
      have := hq k hk1
      rw [hk2, Addr.add_lit, Addr.add_lit] at this
      exact this

theorem open23 {fuel : Nat} {a0 : Option Addr} {len cap : Nat} {x : DataW H × List MemPlace} (h : DataW.trod enc Try.prog w 0 (fun _ => true) true fuel 23 [.slice a0 len cap] = some x) :
    ∃ (l : List (M × M)) (b off : Nat), l.length = len ∧ RepsAt w a0 l b off ∧ (a0 = none → len = 0 ∧ cap = 0) := by
  rcases open_slice Try.underlying23 h with ⟨hcs, _⟩ | ⟨a, len', cap', m, n, D, Pl, hcs, _, hl, _, hm, _, hx⟩
  · simp at hcs
    obtain ⟨rfl, rfl, rfl⟩ := hcs
    exact ⟨[], 0, 0, rfl, ⟨fun h => by simp at h, fun k p v q u hk => by simp at hk⟩, fun _ => ⟨rfl, rfl⟩⟩
  · simp at hcs
    obtain ⟨rfl, rfl, rfl⟩ := hcs
    simp at hm
    subst hm
    have each : ∀ i, i < len → ∃ q : M × M, w.cell? (a.add (i * 4)) = some (.string q.1.1) ∧ w.cell? (a.add (i * 4 + 1)) = some (.string q.1.2) ∧ w.cell? (a.add (i * 4 + 2)) = some (.string q.2.1) ∧ w.cell? (a.add (i * 4 + 3)) = some (.string q.2.2) := by
      intro i hi
      obtain ⟨cs', h1, h2⟩ := hx i (by omega)
      obtain ⟨p, v, q, u, rfl⟩ := open44 h2
      rw [cells44] at h1
      obtain ⟨_, _, hc⟩ := World.cells?_some h1
      have e0 := hc 0 (by omega)
      have e1 := hc 1 (by omega)
      have e2 := hc 2 (by omega)
      have e3 := hc 3 (by omega)
      rw [add_add] at e0 e1 e2 e3
      exact ⟨((p, v), (q, u)), by simpa using e0, by simpa using e1, by simpa using e2, by simpa using e3⟩
    obtain ⟨q, hq⟩ := choose_lt (α := M × M) each
    refine ⟨(List.range len).map q, a.block, a.off, by simp, ?_, fun h => by cases h⟩
    have hsp : 0 < len → a.spot = none := fun hp => by
      have := World.cell?_spot (hq 0 hp).1
      simpa [Addr.add] using this
    obtain ⟨b, off, spot⟩ := a
    refine ⟨fun hp => ?_, fun k p v q' u hk => ?_⟩
    · simp at hp
      simpa using hsp hp
    · obtain ⟨hk1, hk2⟩ := at_range hk
      obtain rfl : spot = none := hsp (by omega)
      have := hq k hk1
      rw [hk2, Addr.add_lit, Addr.add_lit, Addr.add_lit, Addr.add_lit] at this
      exact this

/-- A Mod by value. -/
theorem openMod {b0 : Nat} {r : Reach} {v : Value} {d : DataW H} {p : List MemPlace} (hv : Value.okWide Try.prog w r b0 35 v) (h : DataW.Trod enc Try.prog w base spare held 35 v d p) : ∃ p v' : ByteArray, v = .agg #[.string p, .string v'] := by
  obtain ⟨cs, rfl, hs⟩ := okWide_struct Try.underlying35 hv
  obtain ⟨fuel, hf⟩ := h
  obtain ⟨p, v', he⟩ := open35 hf
  refine ⟨p, v', ?_⟩
  have he' : cs.toList = [.string p, .string v'] := by simpa [Value.cells] using he
  rw [show cs = #[.string p, .string v'] from by rw [← Array.toList_inj]; exact he']

end
end Go.Proofs.Qxb6628959a
