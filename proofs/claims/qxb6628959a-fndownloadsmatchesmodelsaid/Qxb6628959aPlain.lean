/- Seat b6628959a: the plain functions: what Downloads picks and lists. No Go in sight. -/
import Derived.Laws.Strings
namespace Go.Proofs.Qxb6628959a

/-- A module: path, version. -/
abbrev M := ByteArray × ByteArray

/-- Strings compared as the model compares them: byte by byte. -/
def sEq (a b : ByteArray) : Bool := a.toList == b.toList
def sNil (a : ByteArray) : Bool := a.toList.isEmpty

/-- What the replacements that are left make of 'req', m having been picked so far. -/
def pick (req m : M) : List (M × M) → M
  | [] => m
  | r :: rs => if sEq r.1.1 req.1 then (if sEq r.1.2 req.2 then r.2 else if sNil r.1.2 then pick req r.2 rs else pick req m rs) else pick req m rs

/-- What Downloads lists. -/
def dl (rep : List (M × M)) : List M → List M
  | [] => []
  | r :: rs => (if sNil (pick r r rep).2 then [] else [pick r r rep]) ++ dl rep rs

theorem toList_inj {a b : ByteArray} (h : a.toList = b.toList) : a = b := by
  have h1 : a.data.toList = b.data.toList := by rw [← ByteArray.toList_eq, ← ByteArray.toList_eq]; exact h
  cases a; cases b
  simp_all

theorem sEq_iff (a b : ByteArray) : sEq a b = true ↔ a = b := by
  unfold sEq
  rw [beq_iff_eq]
  exact ⟨toList_inj, fun h => by rw [h]⟩

theorem sEq_self (a : ByteArray) : sEq a a = true := (sEq_iff a a).2 rfl

/-- A replacement of one version put in front wins at just that requirement. -/
theorem pick_front (rep : List (M × M)) (old nw r : M) (h : sNil old.2 = false) :
    pick r r ((old, nw) :: rep) = if sEq r.1 old.1 && sEq r.2 old.2 then nw else pick r r rep := by
  have c1 : sEq old.1 r.1 = sEq r.1 old.1 := by rw [Bool.eq_iff_iff, sEq_iff, sEq_iff]; exact eq_comm
  have c2 : sEq old.2 r.2 = sEq r.2 old.2 := by rw [Bool.eq_iff_iff, sEq_iff, sEq_iff]; exact eq_comm
  rw [pick, c1, c2, h]
  cases sEq r.1 old.1 <;> cases sEq r.2 old.2 <;> simp

theorem dl_one (rep : List (M × M)) (r : M) : dl rep [r] = if sNil (pick r r rep).2 then [] else [pick r r rep] := by simp [dl]

theorem drop_at {α : Type} {l : List α} {k : Nat} {x : α} (h : l[k]? = some x) : l.drop k = x :: l.drop (k + 1) := by
  obtain ⟨hk, rfl⟩ := List.getElem?_eq_some_iff.1 h
  exact List.drop_eq_getElem_cons hk

theorem dl_step (rep : List (M × M)) {l : List M} {k : Nat} {r : M} (h : l[k]? = some r) :
    dl rep (l.drop k) = (if sNil (pick r r rep).2 then [] else [pick r r rep]) ++ dl rep (l.drop (k + 1)) := by rw [drop_at h, dl]

theorem dl_length (rep : List (M × M)) (l : List M) : (dl rep l).length ≤ l.length := by
  induction l with
  | nil => simp [dl]
  | cons r rs ih =>
    rw [dl]
    split <;> simp <;> omega

/-- The four ways of a round over the replacements. -/
theorem pick_skip {req m : M} {l : List (M × M)} {j : Nat} {p v q u : ByteArray} (h : l[j]? = some ((p, v), (q, u))) (h1 : sEq p req.1 = false) : pick req m (l.drop j) = pick req m (l.drop (j + 1)) := by
  rw [drop_at h, pick]; simp [h1]
theorem pick_hit {req m : M} {l : List (M × M)} {j : Nat} {p v q u : ByteArray} (h : l[j]? = some ((p, v), (q, u))) (h1 : sEq p req.1 = true) (h2 : sEq v req.2 = true) : pick req m (l.drop j) = (q, u) := by
  rw [drop_at h, pick]; simp [h1, h2]
theorem pick_all {req m : M} {l : List (M × M)} {j : Nat} {p v q u : ByteArray} (h : l[j]? = some ((p, v), (q, u))) (h1 : sEq p req.1 = true) (h2 : sEq v req.2 = false) (h3 : sNil v = true) : pick req m (l.drop j) = pick req (q, u) (l.drop (j + 1)) := by
  rw [drop_at h, pick]; simp [h1, h2, h3]
theorem pick_pass {req m : M} {l : List (M × M)} {j : Nat} {p v q u : ByteArray} (h : l[j]? = some ((p, v), (q, u))) (h1 : sEq p req.1 = true) (h2 : sEq v req.2 = false) (h3 : sNil v = false) : pick req m (l.drop j) = pick req m (l.drop (j + 1)) := by
  rw [drop_at h, pick]; simp [h1, h2, h3]
theorem pick_end {req m : M} {l : List (M × M)} {j : Nat} (h : l.length ≤ j) : pick req m (l.drop j) = m := by
  rw [List.drop_eq_nil_of_le h, pick]

end Go.Proofs.Qxb6628959a
