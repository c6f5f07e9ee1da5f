/- Seat b6630088a: the law FnPeekAgreesWithAnyPrefixAndNamesTheByte, walked. -/
import Derived.Test.Qxb6630088aPeek
namespace Go.Proofs.Qxb6630088a
open Go.RowKit
set_option linter.unusedVariables false

theorem below_keptA {w0 w w' : World} {B pb : Nat} (h : Below B w0 w) (hg : w.grownBy w' (some pb)) (hB : B ≤ w.heap.size) (hp : B ≤ pb) : Below B w0 w' :=
  h.grown hg hB (fun k hk => by cases hk; exact hp)
theorem BytesAt.take {w : World} {ao : Option Addr} {l : List Int} {b off : Nat} (h : BytesAt w ao l b off) (k : Nat) : BytesAt w ao (l.take k) b off := by
  refine ⟨fun hp => h.addr (by simp at hp; omega), fun j c hj => ?_, fun c hc => h.range c (List.mem_of_mem_take hc)⟩
  rw [List.getElem?_take] at hj
  split at hj
  · exact h.cells j c hj
  · cases hj
theorem slice22 (ao : Option Addr) (n k : Nat) (hk : k ≤ n) (w : World) : (Instr.slice 22 (.slice ao n n) none (some (.int .i64 (k : Int))) (some (.int .i64 (k : Int)))).run Try.prog w = .ok (.slice ao k k) w := by
  have he : Try.prog.elem 22 = 5 := by kernel_rfl
  have hs : (sizeOf 5).run Try.prog w = .ok 1 w := by kernel_rfl
  rw [run_slice_hm (P := Try.prog) w 22 _ _ _ (by kernel_rfl) .i64 .i64 (k : Int) (k : Int) (by omega) (by omega) (by omega), he, hs]
  have e1 : ((k : Int)).toNat = k := by omega
  have e2 : ∀ a : Option Addr, a.map (fun x => x.add (0 * 1)) = a := fun a => by cases a <;> simp [Addr.add]
  simp only [Result.andThen, sliced, e1, e2, Nat.sub_zero, ite_self]
theorem sliceAt22 (ao : Option Addr) (n k : Nat) (hk : k ≤ n) (w : World) : (Instr.sliceAt 22 (.slice ao n n) none (some (.int .i64 (k : Int))) (some (.int .i64 (k : Int)))).run Try.prog w = .ok (.slice ao k k) w := by
  rw [run_sliceAt_slice (P := Try.prog) w 22 _ _ _ _ (by kernel_rfl)]
  exact slice22 ao n k hk w

set_option maxHeartbeats 1000000 in
set_option maxRecDepth 100000 in
theorem agrees_walk (ao : Option Addr) (n c : Nat) (l : List Int) (b off : Nat) (x y : Int) (w : World) (hl : l.length = n) (h : BytesAt w ao l b off) (h0 : ao = none → n = 0 ∧ c = 0) :
    Calls Try.prog 3 #[.slice ao n c, .int .i64 x, .int .i64 y] w fun e w' => e = .returned (.bool true) ∧ Below w.heap.size w w' := by
  go_enter Try.func3, Try.ntmps3
  go_wp2_with fail
  refine (zzBytesA_any ao n c x y w).mono ?_
  rintro e w' ⟨⟨r, rfl⟩, hw⟩
  have hw' := hw.symm
  subst hw'
  clear hw
  cases r
  · go_wp2
    go_ret
    exact ⟨rfl, Below.refl _ _⟩
  by_cases hn : n ≤ 1048576
  rotate_left
  · go_wp2
    go_ret
    exact ⟨rfl, Below.refl _ _⟩
  by_cases hx : 0 ≤ x
  rotate_left
  · go_wp2
    go_ret
    exact ⟨rfl, Below.refl _ _⟩
  by_cases hxn : x ≤ n
  rotate_left
  · go_wp2
    go_ret
    exact ⟨rfl, Below.refl _ _⟩
  by_cases hxy : x ≤ y
  rotate_left
  · go_wp2
    go_ret
    exact ⟨rfl, Below.refl _ _⟩
  by_cases hyn : y ≤ n
  rotate_left
  · go_wp2
    go_ret
    exact ⟨rfl, Below.refl _ _⟩
  obtain ⟨P, hP⟩ := Int.eq_ofNat_of_zero_le hx
  subst hP
  obtain ⟨K, hK⟩ := Int.eq_ofNat_of_zero_le (show 0 ≤ y by omega)
  subst hK
  have hPK : P ≤ K := by omega
  have hKn : K ≤ n := by omega
  have nk1 : ¬ K < P := by omega
  have nk2 : ¬ n < K := by omega
  have nk3 : ¬ n < P := by omega
  go_wp2_with fail
  refine (clone_any ao n c l b off w hl h hn h0).mono ?_
  rintro e w1 ⟨ao1, b1, rfl, M1, h01, B1⟩
  go_wp2_with fail
  refine (newParser_any ao1 n n P w1).mono ?_
  rintro e w2 ⟨rfl, R2, hB2⟩
  have M2 := M1.on hB2
  have hne : 0 < l.length → b1 ≠ w1.heap.size := fun hp => by have := M1.lt hp; omega
  have B2 : Below w.heap.size w w2 := B1.trans (hB2.mono B1.size)
  go_wp2_with fail
  refine (zzpeek_any w1.heap.size ao1 n n P b1 0 l w2 hl M2 R2 hne (by omega) hn).mono ?_
  rintro e w3 ⟨rfl, R3, G3⟩
  have M3 := bytes_kept M2 G3 hne
  have B3 : Below w.heap.size w w3 := below_keptA B2 G3 B2.size B1.size
  have q1 := stop_ge l P
  have q2 := stop_le l P (by omega)
  have q3 := stop_take l K (by omega) K P (by omega) hPK
  have r1 := stop_ge (l.take K) P
  have r2 := stop_le (l.take K) P (by simp; omega)
  have r3 : (l.take K).length = K := by simp; omega
  rw [r3] at r2
  -- what the two further parsers answer
  have D1 : ∀ (pb : Nat) (W : World), Prs W pb ao1 K K P → BytesAt W ao1 l b1 0 → (0 < l.length → b1 ≠ pb) → Calls Try.prog 8 #[.pointer (some ⟨pb, 0, none⟩)] W fun e w' => e = .returned (.int .u8 (byteAt (l.take K) (stopAt (l.take K) P))) ∧ Prs w' pb ao1 K K (stopAt (l.take K) P) ∧ W.grownBy w' (some pb) := fun pb W hR hM hb =>
    zzpeek_any pb ao1 K K P b1 0 (l.take K) W r3 (hM.take K) hR (fun hp => hb (by omega)) hPK (by omega)
  have D2 : ∀ (pb : Nat) (W : World), Prs W pb ao1 n n K → BytesAt W ao1 l b1 0 → (0 < l.length → b1 ≠ pb) → Calls Try.prog 8 #[.pointer (some ⟨pb, 0, none⟩)] W fun e w' => e = .returned (.int .u8 (byteAt l (stopAt l K))) ∧ Prs w' pb ao1 n n (stopAt l K) ∧ W.grownBy w' (some pb) := fun pb W hR hM hb =>
    zzpeek_any pb ao1 n n K b1 0 l W hl hM hR hb hKn hn
  have q4 : ∀ {q}, q < K → byteAt (l.take K) q = byteAt l q := fun hq => byte_take l K _ hq
  have q5 : byteAt (l.take K) K = 0 := byte_end (by omega)
  obtain ⟨Q, hQ⟩ : ∃ Q, stopAt l P = Q := ⟨_, rfl⟩
  obtain ⟨S, hS⟩ : ∃ S, stopAt (l.take K) P = S := ⟨_, rfl⟩
  obtain ⟨T, hT⟩ : ∃ T, stopAt l K = T := ⟨_, rfl⟩
  obtain ⟨U, hU⟩ : ∃ U, byteAt (l.take K) S = U := ⟨_, rfl⟩
  obtain ⟨V, hV⟩ : ∃ V, byteAt l T = V := ⟨_, rfl⟩
  obtain ⟨Y, hY⟩ : ∃ Y, byteAt l Q = Y := ⟨_, rfl⟩
  rw [hQ] at R3 q1 q2 q3 ⊢
  rw [hS] at q3 r1 r2
  rw [hT] at q3
  rw [hl] at q2
  rw [hY]
  simp only [hS, hU] at D1
  simp only [hT, hV] at D2
  have E1 : S < K → Q = S ∧ Y = U := fun hs => ⟨q3.1 hs, by rw [← hY, ← hU, q4 hs, q3.1 hs]⟩
  have E2 : S = K → Q = T ∧ Y = V ∧ U = 0 := fun hs => ⟨q3.2 hs, by rw [← hY, ← hV, q3.2 hs], by rw [← hU, hs, q5]⟩
  have HE1 : Hid (S < K → Q = S ∧ Y = U) := E1
  have HE2 : Hid (S = K → Q = T ∧ Y = V ∧ U = 0) := E2
  have HD1 : Hid _ := D1
  have HD2 : Hid _ := D2
  have HY : Hid (byteAt l Q = Y) := hY
  clear E1 E2 D1 D2 q3 q4 q5 hQ hS hT hU hV hY R2 M2 hB2 B2 G3
  have hs1 := slice22 ao1 n K hKn
  have hs2 := sliceAt22 ao1 n K hKn
  have nq1 : ¬ Q < P := by omega
  have nq2 : ¬ n < Q := by omega
  go_wp2_with fail
  refine (pos_any w1.heap.size ao1 n n Q w3 R3).mono ?_
  rintro e w' ⟨rfl, hw⟩
  have hw' := hw.symm
  subst hw'
  clear hw
  by_cases hqn : Q < n
  · obtain ⟨z, hz, hzr, hzc⟩ := M3.at (k := Q) (by omega)
    obtain rfl : Y = z := HY.out.symm.trans (byte_here hz)
    have hix := fun w => ix22 (n := n) (c := n) (b := b1) (off := 0) (k := Q) (by omega) (M3.addr (by omega)) w
    simp only [Nat.zero_add] at hix hzc
    clear hz
    go_wp2_with fail
    refine (newParser_any ao1 K K P w3).mono ?_
    rintro e w4 ⟨rfl, R4, hB4⟩
    have M4 := M3.on hB4
    have hne4 : 0 < l.length → b1 ≠ w3.heap.size := fun hp => by have := M3.lt hp; omega
    have B4 : Below w.heap.size w w4 := B3.trans (hB4.mono B3.size)
    go_wp2_with fail
    refine (HD1.out w3.heap.size w4 R4 M4 hne4).mono ?_
    rintro e w5 ⟨rfl, R5, G5⟩
    have M5 := bytes_kept M4 G5 hne4
    have B5 : Below w.heap.size w w5 := below_keptA B4 G5 B4.size B3.size
    clear R4 hB4 M4 B4 G5
    go_wp2_with fail
    refine (pos_any w3.heap.size ao1 K K S w5 R5).mono ?_
    rintro e w' ⟨rfl, hw⟩
    have hw' := hw.symm
    subst hw'
    clear hw
    by_cases hSK : S < K
    · obtain ⟨e1, e2⟩ := HE1.out hSK
      subst e1 e2
      go_wp2
      go_ret
      exact ⟨rfl, B5⟩
    · obtain ⟨e1, e2, e3⟩ := HE2.out (by omega)
      obtain rfl : S = K := by omega
      subst e1 e2 e3
      go_wp2_with fail
      refine (newParser_any ao1 n n S w5).mono ?_
      rintro e w6 ⟨rfl, R6, hB6⟩
      have M6 := M5.on hB6
      have hne6 : 0 < l.length → b1 ≠ w5.heap.size := fun hp => by have := M5.lt hp; omega
      have B6 : Below w.heap.size w w6 := B5.trans (hB6.mono B5.size)
      go_wp2_with fail
      refine (HD2.out w5.heap.size w6 R6 M6 hne6).mono ?_
      rintro e w7 ⟨rfl, R7, G7⟩
      have B7 : Below w.heap.size w w7 := below_keptA B6 G7 B6.size B5.size
      go_wp2_with fail
      refine (pos_any w5.heap.size ao1 n n _ w7 R7).mono ?_
      rintro e w' ⟨rfl, hw⟩
      have hw' := hw.symm
      subst hw'
      clear hw
      go_wp2
      go_ret
      exact ⟨rfl, B7⟩
  · obtain rfl : Y = 0 := HY.out.symm.trans (byte_end (by omega))
    go_wp2_with fail
    refine (newParser_any ao1 K K P w3).mono ?_
    rintro e w4 ⟨rfl, R4, hB4⟩
    have M4 := M3.on hB4
    have hne4 : 0 < l.length → b1 ≠ w3.heap.size := fun hp => by have := M3.lt hp; omega
    have B4 : Below w.heap.size w w4 := B3.trans (hB4.mono B3.size)
    go_wp2_with fail
    refine (HD1.out w3.heap.size w4 R4 M4 hne4).mono ?_
    rintro e w5 ⟨rfl, R5, G5⟩
    have M5 := bytes_kept M4 G5 hne4
    have B5 : Below w.heap.size w w5 := below_keptA B4 G5 B4.size B3.size
    clear R4 hB4 M4 B4 G5
    go_wp2_with fail
    refine (pos_any w3.heap.size ao1 K K S w5 R5).mono ?_
    rintro e w' ⟨rfl, hw⟩
    have hw' := hw.symm
    subst hw'
    clear hw
    by_cases hSK : S < K
    · obtain ⟨e1, e2⟩ := HE1.out hSK
      subst e1 e2
      go_wp2
      go_ret
      exact ⟨rfl, B5⟩
    · obtain ⟨e1, e2, e3⟩ := HE2.out (by omega)
      obtain rfl : S = K := by omega
      subst e1 e2 e3
      go_wp2_with fail
      refine (newParser_any ao1 n n S w5).mono ?_
      rintro e w6 ⟨rfl, R6, hB6⟩
      have M6 := M5.on hB6
      have hne6 : 0 < l.length → b1 ≠ w5.heap.size := fun hp => by have := M5.lt hp; omega
      have B6 : Below w.heap.size w w6 := B5.trans (hB6.mono B5.size)
      go_wp2_with fail
      refine (HD2.out w5.heap.size w6 R6 M6 hne6).mono ?_
      rintro e w7 ⟨rfl, R7, G7⟩
      have B7 : Below w.heap.size w w7 := below_keptA B6 G7 B6.size B5.size
      go_wp2_with fail
      refine (pos_any w5.heap.size ao1 n n _ w7 R7).mono ?_
      rintro e w' ⟨rfl, hw⟩
      have hw' := hw.symm
      subst hw'
      clear hw
      go_wp2
      go_ret
      exact ⟨rfl, B7⟩

end Go.Proofs.Qxb6630088a
