/- Seat b6630088a: JSON's white space, plain. No Go in sight. -/
namespace Go.Proofs.Qxb6630088a

def sp (c : Int) : Bool := (c == 32) || (c == 9) || (c == 10) || (c == 13)
/-- How many blanks stand ahead. -/
def skip : List Int → Nat
  | [] => 0
  | c :: cs => if sp c then skip cs + 1 else 0
/-- Where Peek stops. -/
def stopAt (l : List Int) (p : Nat) : Nat := p + skip (l.drop p)
/-- What it answers there. -/
def byteAt (l : List Int) (q : Nat) : Int := l[q]?.getD 0

theorem skip_le (l : List Int) : skip l ≤ l.length := by
  induction l with
  | nil => simp [skip]
  | cons c cs ih =>
    rw [skip]
    split <;> simp <;> omega
theorem stop_ge (l : List Int) (p : Nat) : p ≤ stopAt l p := by unfold stopAt; omega
theorem stop_le (l : List Int) (p : Nat) (h : p ≤ l.length) : stopAt l p ≤ l.length := by
  have := skip_le (l.drop p)
  simp at this
  unfold stopAt
  omega
theorem drop_at {l : List Int} {k : Nat} {x : Int} (h : l[k]? = some x) : l.drop k = x :: l.drop (k + 1) := by
  obtain ⟨hk, rfl⟩ := List.getElem?_eq_some_iff.1 h
  exact List.drop_eq_getElem_cons hk
theorem stop_space {l : List Int} {p : Nat} {c : Int} (h : l[p]? = some c) (hs : sp c = true) : stopAt l p = stopAt l (p + 1) := by
  unfold stopAt
  rw [drop_at h, skip, if_pos hs]
  omega
theorem stop_here {l : List Int} {p : Nat} {c : Int} (h : l[p]? = some c) (hs : sp c = false) : stopAt l p = p := by
  unfold stopAt
  rw [drop_at h, skip, hs]
  simp
theorem stop_end {l : List Int} {p : Nat} (h : l.length ≤ p) : stopAt l p = p := by
  unfold stopAt
  rw [List.drop_eq_nil_of_le h, skip]
  omega
theorem byte_here {l : List Int} {p : Nat} {c : Int} (h : l[p]? = some c) : byteAt l p = c := by simp [byteAt, h]
theorem byte_end {l : List Int} {p : Nat} (h : l.length ≤ p) : byteAt l p = 0 := by
  unfold byteAt
  rw [List.getElem?_eq_none h]
  rfl
/-- Every byte that is passed over is a blank. -/
theorem passed {l : List Int} (n : Nat) : ∀ p i c, l.length - p ≤ n → p ≤ i → i < stopAt l p → l[i]? = some c → sp c = true := by
  induction n with
  | zero =>
    intro p i c hn hp hi hc
    rw [stop_end (by omega)] at hi
    omega
  | succ n ih =>
    intro p i c hn hp hi hc
    by_cases hl : p < l.length
    · have hx : l[p]? = some l[p] := by simp [hl]
      cases hs : sp l[p]
      · rw [stop_here hx hs] at hi
        omega
      · by_cases e : i = p
        · subst e
          rw [hx] at hc
          rw [← Option.some.inj hc]
          exact hs
        · rw [stop_space hx hs] at hi
          exact ih (p + 1) i c (by omega) (by omega) hi hc
    · rw [stop_end (by omega)] at hi
      omega
/-- Where it stops before the end no blank stands. -/
theorem stopped {l : List Int} (n : Nat) : ∀ p c, l.length - p ≤ n → l[stopAt l p]? = some c → sp c = false := by
  induction n with
  | zero =>
    intro p c hn hc
    rw [stop_end (by omega)] at hc
    have := (List.getElem?_eq_some_iff.1 hc).1
    omega
  | succ n ih =>
    intro p c hn hc
    by_cases hl : p < l.length
    · have hx : l[p]? = some l[p] := by simp [hl]
      cases hs : sp l[p]
      · rw [stop_here hx hs, hx] at hc
        rw [← Option.some.inj hc]
        exact hs
      · rw [stop_space hx hs] at hc
        exact ih (p + 1) c (by omega) hc
    · rw [stop_end (by omega)] at hc
      have := (List.getElem?_eq_some_iff.1 hc).1
      omega
theorem stop_idem (l : List Int) (p : Nat) (hp : p ≤ l.length) : stopAt l (stopAt l p) = stopAt l p := by
  by_cases h : stopAt l p < l.length
  · have hx : l[stopAt l p]? = some l[stopAt l p] := by simp [h]
    exact stop_here hx (stopped l.length p _ (by omega) hx)
  · exact stop_end (by omega)
/-- A prefix that is not used up stops where the whole does. -/
theorem stop_take (l : List Int) (k : Nat) (hk : k ≤ l.length) (n : Nat) : ∀ p, k - p ≤ n → p ≤ k → (stopAt (l.take k) p < k → stopAt l p = stopAt (l.take k) p) ∧ (stopAt (l.take k) p = k → stopAt l p = stopAt l k) := by
  induction n with
  | zero =>
    intro p hn hp
    obtain rfl : p = k := by omega
    rw [stop_end (l := l.take p) (by simp; omega)]
    exact ⟨fun h => by omega, fun _ => rfl⟩
  | succ n ih =>
    intro p hn hp
    by_cases e : p = k
    · subst e
      rw [stop_end (l := l.take p) (by simp; omega)]
      exact ⟨fun h => by omega, fun _ => rfl⟩
    · have hx : l[p]? = some l[p] := by simp
      have hy : (l.take k)[p]? = some l[p] := by rw [List.getElem?_take, if_pos (by omega)]; exact hx
      cases hs : sp l[p]
      · rw [stop_here hx hs, stop_here hy hs]
        exact ⟨fun _ => rfl, fun h => by omega⟩
      · rw [stop_space hx hs, stop_space hy hs]
        exact ih (p + 1) (by omega) (by omega)
theorem byte_take (l : List Int) (k q : Nat) (h : q < k) : byteAt (l.take k) q = byteAt l q := by
  unfold byteAt
  rw [List.getElem?_take, if_pos h]

end Go.Proofs.Qxb6630088a
