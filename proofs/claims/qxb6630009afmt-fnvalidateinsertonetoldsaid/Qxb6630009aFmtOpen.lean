/- Seat b6630009aF: what can be read of a []string, said of cells. -/
import Derived.Test.Qxb6630009aFmtFilter
import Derived.ProofKit
import Derived.Deep.Slices
namespace Go.Proofs.Qxb6630009aFmt
open Go.ChangeShapes Go.WideShapes Go.ChangeAt Go.RowKit Go.Deep

section
variable {H : Type} {enc : TypeId × Value → H} {w : World}

theorem at_range {α : Type} {n k : Nat} {f : Nat → α} {x : α} (h : ((List.range n).map f)[k]? = some x) : k < n ∧ f k = x := by
  rw [List.getElem?_map] at h
  by_cases hk : k < n
  · rw [List.getElem?_range hk] at h
    simp at h
    exact ⟨hk, h⟩
  · rw [List.getElem?_eq_none (by simp; omega)] at h
    simp at h

theorem open22 {fuel : Nat} {a0 : Option Addr} {len cap : Nat} {x : DataW H × List MemPlace} (h : DataW.trod enc Tryf.prog w 0 (fun _ => true) true fuel 22 [.slice a0 len cap] = some x) :
    ∃ (l : List ByteArray) (b off : Nat), l.length = len ∧ StrsAt w a0 l b off ∧ (a0 = none → len = 0 ∧ cap = 0) ∧ len ≤ cap := by
  rcases open_slice1 Tryf.underlying22 (by kernel_rfl) h with ⟨hcs, _⟩ | ⟨a, len', cap', m, n, V, D, Pl, hcs, _, hl, _, hm, _, hx⟩
  · simp at hcs
    obtain ⟨rfl, rfl, rfl⟩ := hcs
    exact ⟨[], 0, 0, rfl, ⟨fun h => by simp at h, fun k s hk => by simp at hk, fun s hs => by simp at hs⟩, fun _ => ⟨rfl, rfl⟩, Nat.le_refl _⟩
  · simp at hcs
    obtain ⟨rfl, rfl, rfl⟩ := hcs
    simp at hm
    subst hm
    have each : ∀ i, i < len → ∃ q : ByteArray, w.cell? (a.add i) = some (.string q) ∧ q.size ≤ maxLen := by
      intro i hi
      obtain ⟨h1, h2⟩ := hx i (by omega)
      obtain ⟨s, hs, _, hz⟩ := DataW.trod_string Tryf.underlying9 h2
      simp at hs
      exact ⟨s, by rw [h1, hs], hz⟩
    obtain ⟨q, hq⟩ := choose_lt (α := ByteArray) each
    refine ⟨(List.range len).map q, a.block, a.off, by simp, ?_, (fun h => by cases h), hl⟩
    have hsp : 0 < len → a.spot = none := fun hp => by
      have := World.cell?_spot (hq 0 hp).1
      simpa [Addr.add] using this
    obtain ⟨b, off, spot⟩ := a
    refine ⟨fun hp => ?_, fun k s hk => ?_, fun s hs => ?_⟩
    · simp at hp
      simpa using hsp hp
    · obtain ⟨hk1, hk2⟩ := at_range hk
      obtain rfl : spot = none := hsp (by omega)
      have := (hq k hk1).1
      rw [hk2, Addr.add_lit] at this
      exact this
    · simp only [List.mem_map, List.mem_range] at hs
      obtain ⟨k, hk, rfl⟩ := hs
      exact (hq k hk).2

end
end Go.Proofs.Qxb6630009aFmt
