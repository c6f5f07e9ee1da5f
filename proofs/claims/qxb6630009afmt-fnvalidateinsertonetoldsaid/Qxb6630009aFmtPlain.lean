/- Seat b6630009aF: the plain functions: names, ids, filters. No Go in sight. -/
import Derived.Laws.Strings
namespace Go.Proofs.Qxb6630009aFmt

def dig (c : Int) : Bool := decide (48 ≤ c) && decide (c ≤ 57)
def ltr (c : Int) : Bool := (decide (97 ≤ c) && decide (c ≤ 122)) || (decide (65 ≤ c) && decide (c ≤ 90))
def nch (c : Int) : Bool := ltr c || dig c || (c == 95)
def ich (c : Int) : Bool := ltr c || dig c || (c == 95) || (c == 45) || (c == 46)

/-- The bytes as numbers. -/
def bys (s : ByteArray) : List Int := s.data.toList.map fun b => (b.toNat : Int)

/-- A name's head: not empty, no digit first. -/
def headB (l : List Int) : Bool := match l with
  | [] => false
  | c :: _ => !dig c
def nameB (s : ByteArray) : Bool := headB (bys s) && (bys s).all nch
def idB (s : ByteArray) : Bool := !(bys s).isEmpty && decide ((bys s).length ≤ 128) && (bys s).all ich
def setB (s : ByteArray) : Bool := !s.toList.isEmpty
def badB (typ : ByteArray) (ids names : List ByteArray) : Bool := (setB typ && !nameB typ) || ids.any (fun s => !idB s) || names.any (fun s => !nameB s)

theorem bys_length (s : ByteArray) : (bys s).length = s.size := by simp [bys]
theorem bys_at (s : ByteArray) (k : Nat) (h : k < s.size) : (bys s)[k]? = some ((s[k].toNat : Nat) : Int) := by
  have : k < s.data.toList.length := by simpa using h
  simp only [bys, List.getElem?_map]
  rw [List.getElem?_eq_getElem this]
  rfl
theorem bys_empty (s : ByteArray) : (bys s).isEmpty = s.toList.isEmpty := by
  rw [ByteArray.toList_eq]
  cases h : s.data.toList <;> simp [bys, h]

theorem all_take {l : List Int} {k : Nat} {c : Int} {f : Int → Bool} (h : l[k]? = some c) : (l.take (k + 1)).all f = ((l.take k).all f && f c) := by
  obtain ⟨hk, rfl⟩ := List.getElem?_eq_some_iff.1 h
  rw [List.take_succ_eq_append_getElem hk, List.all_append, List.all_cons, List.all_nil, Bool.and_true]
theorem all_false {l : List Int} {k : Nat} {f : Int → Bool} (h : (l.take k).all f = false) : l.all f = false := by
  have : l.all f = ((l.take k).all f && (l.drop k).all f) := by rw [← List.all_append, List.take_append_drop]
  rw [this, h]
  rfl
theorem all_full {l : List Int} {k : Nat} {f : Int → Bool} (h : l.length ≤ k) : (l.take k).all f = l.all f := by rw [List.take_of_length_le h]

theorem setB_false {s : ByteArray} (h : s.toList.isEmpty = true) : setB s = false := by simp [setB, h]

end Go.Proofs.Qxb6630009aFmt
