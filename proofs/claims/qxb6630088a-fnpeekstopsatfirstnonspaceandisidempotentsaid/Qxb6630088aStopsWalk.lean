/- Seat b6630088a: the law FnPeekStopsAtFirstNonSpaceAndIsIdempotent, walked. -/
import Derived.Test.Qxb6630088aPeek
namespace Go.Proofs.Qxb6630088a
open Go.RowKit
set_option linter.unusedVariables false

theorem below_kept {w0 w w' : World} {B pb : Nat} (h : Below B w0 w) (hg : w.grownBy w' (some pb)) (hB : B ≤ w.heap.size) (hp : B ≤ pb) : Below B w0 w' :=
  h.grown hg hB (fun k hk => by cases hk; exact hp)

set_option maxHeartbeats 1000000 in
set_option maxRecDepth 100000 in
theorem stops_walk (ao : Option Addr) (n c : Nat) (l : List Int) (b off : Nat) (x : Int) (w : World) (hl : l.length = n) (h : BytesAt w ao l b off) (h0 : ao = none → n = 0 ∧ c = 0) :
    Calls Try.prog 4 #[.slice ao n c, .int .i64 x] w fun e w' => e = .returned (.bool true) ∧ Below w.heap.size w w' := by
  go_enter Try.func4, Try.ntmps4
  go_wp2_with fail
  refine (zzBytesS_any ao n c x w).mono ?_
  rintro e w' ⟨⟨r, rfl⟩, hw⟩
  have hw' := hw.symm
  subst hw'
  clear hw
  cases r
  · go_wp2
    go_ret
    exact ⟨rfl, Below.refl _ _⟩
  by_cases hn : n ≤ 1048576
  rotate_left
  · go_wp2
    go_ret
    exact ⟨rfl, Below.refl _ _⟩
  by_cases hx : 0 ≤ x
  rotate_left
  · go_wp2
    go_ret
    exact ⟨rfl, Below.refl _ _⟩
  by_cases hxn : x ≤ n
  rotate_left
  · go_wp2
    go_ret
    exact ⟨rfl, Below.refl _ _⟩
  obtain ⟨P, hP⟩ := Int.eq_ofNat_of_zero_le hx
  subst hP
  go_wp2_with fail
  refine (clone_any ao n c l b off w hl h hn h0).mono ?_
  rintro e w1 ⟨ao1, b1, rfl, M1, h01, B1⟩
  go_wp2_with fail
  refine (newParser_any ao1 n n P w1).mono ?_
  rintro e w2 ⟨rfl, R2, hB2⟩
  have M2 := M1.on hB2
  have hne : 0 < l.length → b1 ≠ w1.heap.size := fun hp => by have := M1.lt hp; omega
  have B2 : Below w.heap.size w w2 := B1.trans (hB2.mono B1.size)
  go_wp2_with fail
  refine (zzpeek_any w1.heap.size ao1 n n P b1 0 l w2 hl M2 R2 hne (by omega) hn).mono ?_
  rintro e w3 ⟨rfl, R3, G3⟩
  have M3 := bytes_kept M2 G3 hne
  have B3 : Below w.heap.size w w3 := below_kept B2 G3 B2.size B1.size
  have q1 := stop_ge l P
  have q2 := stop_le l P (by omega)
  have q3 := stop_idem l P (by omega)
  have q4 := passed (l := l) l.length P
  have q5 := stopped (l := l) l.length P
  obtain ⟨Q, hQ⟩ : ∃ Q, stopAt l P = Q := ⟨_, rfl⟩
  rw [hQ] at R3 q1 q2 q3 q4 q5 ⊢
  rw [hl] at q2
  clear hQ R2 M2 hB2 B2 G3
  have H3 : Hid (stopAt l Q = Q) := q3
  have H4 : Hid (∀ i c, l.length - P ≤ l.length → P ≤ i → i < Q → l[i]? = some c → sp c = true) := q4
  have H5 : Hid (∀ c, l.length - P ≤ l.length → l[Q]? = some c → sp c = false) := q5
  clear q3 q4 q5
  obtain ⟨Y, hY⟩ : ∃ Y, byteAt l Q = Y := ⟨_, rfl⟩
  rw [hY]
  have HY : Hid (byteAt l Q = Y) := hY
  clear hY
  go_wp2_with fail
  refine (pos_any w1.heap.size ao1 n n Q w3 R3).mono ?_
  rintro e w' ⟨rfl, hw⟩
  have hw' := hw.symm
  subst hw'
  clear hw
  have D2 : Calls Try.prog 8 #[.pointer (some ⟨w1.heap.size, 0, none⟩)] w3 fun e w' => e = .returned (.int .u8 Y) ∧ Prs w' w1.heap.size ao1 n n Q ∧ w3.grownBy w' (some w1.heap.size) := by
    have := zzpeek_any w1.heap.size ao1 n n Q b1 0 l w3 hl M3 R3 hne q2 hn
    rw [H3.out, HY.out] at this
    exact this
  have nq1 : ¬ Q < P := by omega
  have nq2 : ¬ n < Q := by omega
  go_wp2_with fail
  go_loop [8] (fun ii => ∃ i : Nat, P ≤ i ∧ i ≤ Q ∧ ii = .int .i64 i) (fun ii => Q - (intOf ii).toNat)
  case atStart => exact ⟨P, Nat.le_refl _, q1, rfl⟩
  case round =>
    obtain ⟨i, hi1, hi2, rfl⟩ := hrel
    by_cases hlt : i < Q
    · obtain ⟨y, hy, hyr, hyc⟩ := M3.at (k := i) (by omega)
      have hs : sp y = true := H4.out i y (by omega) hi1 hlt hy
      have hix := fun w => ix22 (n := n) (c := n) (b := b1) (off := 0) (k := i) (by omega) (M3.addr (by omega)) w
      simp only [Nat.zero_add] at hix hyc
      clear hy
      go_wp2_with (first | (go_at_call 11; refine (isSpace_any _ _).mono ?_; rintro e w7 ⟨rfl, hw7⟩; have hw8 := hw7.symm; subst hw8))
      go_round
      case rel => exact ⟨i + 1, by omega, by omega, by go_num⟩
      case measure => simp [intOf]; omega
    · obtain rfl : i = Q := by omega
      by_cases hqn : i < n
      · obtain ⟨y, hy, hyr, hyc⟩ := M3.at (k := i) (by omega)
        have hs : sp y = false := H5.out y (by omega) hy
        obtain rfl : Y = y := HY.out.symm.trans (byte_here hy)
        have hix := fun w => ix22 (n := n) (c := n) (b := b1) (off := 0) (k := i) (by omega) (M3.addr (by omega)) w
        simp only [Nat.zero_add] at hix hyc
        clear hy
        go_wp2_with (first | (go_at_call 11; refine (isSpace_any _ _).mono ?_; rintro e w7 ⟨rfl, hw7⟩; have hw8 := hw7.symm; subst hw8))
        refine D2.mono ?_
        rintro e w4 ⟨rfl, R4, G4⟩
        go_wp2_with fail
        refine (pos_any w1.heap.size ao1 n n i w4 R4).mono ?_
        rintro e w' ⟨rfl, hw⟩
        have hw' := hw.symm
        subst hw'
        clear hw
        go_wp2
        go_ret
        exact ⟨rfl, below_kept B3 G4 B3.size B1.size⟩
      · obtain rfl : Y = 0 := HY.out.symm.trans (byte_end (by omega))
        go_wp2_with fail
        refine D2.mono ?_
        rintro e w4 ⟨rfl, R4, G4⟩
        go_wp2_with fail
        refine (pos_any w1.heap.size ao1 n n i w4 R4).mono ?_
        rintro e w' ⟨rfl, hw⟩
        have hw' := hw.symm
        subst hw'
        clear hw
        go_wp2
        go_ret
        exact ⟨rfl, below_kept B3 G4 B3.size B1.size⟩

end Go.Proofs.Qxb6630088a
