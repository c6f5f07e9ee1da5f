/- Seat b6630060a: the law FnAppendOffsetVarintKeepsOrder, walked. -/
import Derived.Test.Qxb6630060aDecodeWalk
namespace Go.Proofs.Qxb6630060a
open Go.RowKit
set_option linter.unusedVariables false

theorem below_append {w w' : World} {B : Nat} {v : Value} {l : List Int} (h : Own w B v l) (hg : w.grownBy w' v.ownBlock) (hB : B ≤ w.heap.size) : Below B w w' :=
  (Below.refl _ _).grown hg hB (fun k hk => (World.ownsRow.lt h k hk).1)
/-- What was appended to is a slice with something in it. -/
theorem own_some {w : World} {B : Nat} {v : Value} {l : List Int} {x : Int} (h : Own w B v (l ++ encI x)) (hr : ∀ c ∈ l, 0 ≤ c ∧ c ≤ 255) :
    ∃ g cap, v = .slice (some ⟨g, 0, none⟩) (l.length + (encI x).length) cap ∧ BytesAt w (some ⟨g, 0, none⟩) (l ++ encI x) g 0 ∧ l.length + (encI x).length ≤ cap ∧ cap ≤ maxLen := by
  obtain ⟨ao, g, cap, rfl, M, hao, hcap, hcapm⟩ := h.bytes (by
    intro c hc
    simp only [List.mem_append] at hc
    rcases hc with hc | hc
    · exact hr c hc
    · exact encI_range x c hc)
  have hEp := encI_pos x
  obtain rfl : ao = some ⟨g, 0, none⟩ := by
    rcases hao with ⟨_, h⟩ | h
    · have := congrArg List.length h
      rw [List.length_append, List.length_nil] at this
      omega
    · exact h.1
  rw [List.length_append] at hcap ⊢
  exact ⟨g, cap, rfl, M, hcap, hcapm⟩

theorem quietD {P : Program} {f : FuncId} {args : Array Value} {w : World} {M a : Nat} {v : Value}
    (h : Calls P f args (w.drewN (M + a)) fun e w' => e = .returned v ∧ ∃ m, w' = (w.drewN (M + a)).drewN m) : Calls P f args (w.drewN (M + a)) fun e w'' => e = .returned v ∧ ∃ n, w'' = w.drewN (M + n) :=
  h.mono fun _ _ ⟨he, m, hm⟩ => ⟨he, a + m, by rw [hm, World.drewN_drewN, Nat.add_assoc]⟩
theorem slice22 (g n K cap : Nat) (hK : 0 < K) (hc : n + K ≤ cap) (w : World) : (Instr.slice 22 (.slice (some ⟨g, 0, none⟩) (n + K) cap) (some (.int .i64 (n : Int))) none none).run Try.prog w = .ok (.slice (some ⟨g, n, none⟩) K (cap - n)) w := by
  have he : Try.prog.elem 22 = 5 := by kernel_rfl
  have hs : (sizeOf 5).run Try.prog w = .ok 1 w := by kernel_rfl
  rw [run_slice_l (P := Try.prog) w 22 _ _ _ (by kernel_rfl) .i64 (n : Int) (by omega) (by omega), he, hs]
  have e1 : ((n : Int)).toNat = n := by omega
  simp only [Result.andThen, sliced, e1, Nat.mul_one, Option.map, Addr.add_lit, Nat.zero_add]
  rw [if_neg (by omega), show n + K - n = K by omega]
theorem sliceAt22 (g n K cap : Nat) (hK : 0 < K) (hc : n + K ≤ cap) (w : World) : (Instr.sliceAt 22 (.slice (some ⟨g, 0, none⟩) (n + K) cap) (some (.int .i64 (n : Int))) none none).run Try.prog w = .ok (.slice (some ⟨g, n, none⟩) K (cap - n)) w := by
  rw [run_sliceAt_slice (P := Try.prog) w 22 _ _ _ _ (by kernel_rfl)]
  exact slice22 g n K cap hK hc w

set_option maxHeartbeats 1000000 in
set_option maxRecDepth 100000 in
theorem order_walk (ao : Option Addr) (n c : Nat) (l : List Int) (b off : Nat) (x y : Int) (w : World) (hl : l.length = n) (h : BytesAt w ao l b off) (h0 : ao = none → n = 0 ∧ c = 0) (hx0 : -9223372036854775808 ≤ x) (hx1 : x ≤ 9223372036854775807) (hy0 : -9223372036854775808 ≤ y) (hy1 : y ≤ 9223372036854775807) :
    Calls Try.prog 4 #[.slice ao n c, .int .i64 x, .int .i64 y] w fun e w' => e = .returned (.bool true) ∧ Below w.heap.size w w' := by
  go_enter Try.func4, Try.ntmps4
  go_wp2_with fail
  refine (zzBytesK_any ao n c x y w).mono ?_
  rintro e w' ⟨⟨r, rfl⟩, hw⟩
  have hw' := hw.symm
  subst hw'
  clear hw
  cases r
  · go_wp2
    go_ret
    exact ⟨rfl, Below.refl _ _⟩
  by_cases hn : n ≤ 1048576
  rotate_left
  · go_wp2
    go_ret
    exact ⟨rfl, Below.refl _ _⟩
  by_cases hx : 0 ≤ x
  rotate_left
  · go_wp2
    go_ret
    exact ⟨rfl, Below.refl _ _⟩
  by_cases hy : 0 ≤ y
  rotate_left
  · go_wp2
    go_ret
    exact ⟨rfl, Below.refl _ _⟩
  go_wp2_with fail
  refine (clone_any ao n c l b off w hl h hn h0).mono ?_
  rintro e w1 ⟨ao1, b1, c1, rfl, -, M1, h01, -, B1⟩
  go_wp2_with fail
  refine (clone_any ao1 n c1 l b1 0 w1 hl M1 hn h01).mono ?_
  rintro e w2 ⟨ao2, b2, c2, rfl, -, M2, h02, -, hB2⟩
  have B2 : Below w.heap.size w w2 := B1.trans (hB2.mono B1.size)
  have M12 := M1.on hB2
  clear M1 B1 hB2
  go_wp2_with fail
  refine (clone_any ao1 n c1 l b1 0 w2 hl M12 hn h01).mono ?_
  rintro e w3 ⟨ao3, b3, c3, rfl, O3, -, -, -, hB3⟩
  go_wp2_with fail
  refine (append_any w2.heap.size (.slice ao3 n c3) l x w3 O3 (by omega) hx0 hx1 hB3.size).mono ?_
  rintro e w4 ⟨v4, rfl, O4, G4⟩
  have B4 : Below w2.heap.size w2 w4 := hB3.trans (below_append O3 G4 hB3.size)
  obtain ⟨g4, cap4, rfl, M4, hc4, hcm4⟩ := own_some O4 h.range
  have M14 := M12.on B4
  have M24 := M2.on B4
  clear O3 O4 G4 hB3 M12 M2
  go_wp2_with fail
  refine (clone_any ao1 n c1 l b1 0 w4 hl M14 hn h01).mono ?_
  rintro e w5 ⟨ao5, b5, c5, rfl, O5, -, -, -, hB5⟩
  go_wp2_with fail
  refine (append_any w4.heap.size (.slice ao5 n c5) l y w5 O5 (by omega) hy0 hy1 hB5.size).mono ?_
  rintro e w6 ⟨v6, rfl, O6, G6⟩
  have B6 : Below w4.heap.size w4 w6 := hB5.trans (below_append O5 G6 hB5.size)
  obtain ⟨g6, cap6, rfl, M6, hc6, hcm6⟩ := own_some O6 h.range
  have M46 := M4.on B6
  have M26 := M24.on B6
  have BF : Below w.heap.size w w6 := B2.trans ((B4.trans (B6.mono B4.size)).mono B2.size)
  clear O5 O6 G6 hB5 M14 M24 M4 B2 B4 B6
  have hE1 := encI_pos x
  have hE2 := encI_pos y
  have hS : sl (encI x) (encI y) = cmp x y := by
    rw [encI, encI, if_neg (by omega), if_neg (by omega), enc_sl _ _ (by omega) (by omega), show ((x.toNat : Nat) : Int) = x by omega, show ((y.toNat : Nat) : Int) = y by omega]
  have hL1 := encI_length x
  have hL2 := encI_length y
  obtain ⟨E1, he1⟩ : ∃ E1, encI x = E1 := ⟨_, rfl⟩
  obtain ⟨E2, he2⟩ : ∃ E2, encI y = E2 := ⟨_, rfl⟩
  rw [he1, he2] at hS
  rw [he1] at M46 hc4 hE1 hL1 ⊢
  rw [he2] at M6 hc6 hE2 hL2 ⊢
  rw [hl] at hc4 hc6
  clear he1 he2
  obtain ⟨K1, hK1⟩ : ∃ K1, E1.length = K1 := ⟨_, rfl⟩
  obtain ⟨K2, hK2⟩ : ∃ K2, E2.length = K2 := ⟨_, rfl⟩
  rw [hK1] at hc4 hE1 hL1 ⊢
  rw [hK2] at hc6 hE2 hL2 ⊢
  have HK1 : Hid (E1.length = K1) := hK1
  have HK2 : Hid (E2.length = K2) := hK2
  have HS : Hid (sl E1 E2 = cmp x y) := hS
  clear hK1 hK2 hS
  unfold maxLen at hcm4 hcm6
  have hs1 := slice22 g4 n K1 cap4 hE1 hc4
  have hs2 := slice22 g6 n K2 cap6 hE2 hc6
  have hs3 := sliceAt22 g4 n K1 cap4 hE1 hc4
  have hs4 := sliceAt22 g6 n K2 cap6 hE2 hc6
  go_wp2_with fail
  refine (hasPrefix_any (some ⟨g4, 0, none⟩) ao2 (n + K1) cap4 n c2 g4 0 b2 0 (l ++ E1) l w6 (by rw [List.length_append, hl, HK1.out]) hl M46 M26 (by omega) (by rw [← hl]; simp)).mono ?_
  rintro e w7 ⟨rfl, m7, rfl⟩
  go_wp2_with fail
  refine (hasPrefix_any (some ⟨g6, 0, none⟩) ao2 (n + K2) cap6 n c2 g6 0 b2 0 (l ++ E2) l (w6.drewN m7) (by rw [List.length_append, hl, HK2.out]) hl (M6.block rfl) (M26.block rfl) (by omega) (by rw [← hl]; simp)).mono ?_
  rintro e w8 ⟨rfl, m8, rfl⟩
  have ME1 : BytesAt w6 (some ⟨g4, n, none⟩) E1 g4 n := by
    have := M46.drop (ao' := some ⟨g4, n, none⟩) n (fun _ => by simp)
    rw [show (l ++ E1).drop n = E1 by rw [← hl]; simp, Nat.zero_add] at this
    exact this
  have ME2 : BytesAt w6 (some ⟨g6, n, none⟩) E2 g6 n := by
    have := M6.drop (ao' := some ⟨g6, n, none⟩) n (fun _ => by simp)
    rw [show (l ++ E2).drop n = E2 by rw [← hl]; simp, Nat.zero_add] at this
    exact this
  clear M46 M6 M26
  have D : ∀ W : World, W.heap = w6.heap → Calls Try.prog 10 #[.slice (some ⟨g4, n, none⟩) K1 (cap4 - n), .slice (some ⟨g6, n, none⟩) K2 (cap6 - n)] W fun e w' => e = .returned (.int .i64 (cmp x y)) ∧ ∃ m', w' = W.drewN m' := fun W hW => by
    have := shortlex_any (some ⟨g4, n, none⟩) (some ⟨g6, n, none⟩) K1 (cap4 - n) K2 (cap6 - n) g4 n g6 n E1 E2 W HK1.out HK2.out (ME1.block (by rw [hW])) (ME2.block (by rw [hW])) (by omega)
    rw [HS.out] at this
    exact this
  by_cases h1 : x < y
  · have hc : cmp x y = -1 := by rw [cmp, if_pos h1]
    rw [hc] at D
    clear hc
    go_wp2_with fail
    go_quiet ((go_at_call 10; exact quietD (D _ rfl)))
    go_wp2_with fail
    go_ret
    exact ⟨rfl, below_drewN (below_drewN BF _) _⟩
  by_cases h2 : y < x
  · have hc : cmp x y = 1 := by rw [cmp, if_neg h1, if_pos h2]
    rw [hc] at D
    clear hc
    go_wp2_with fail
    go_quiet ((go_at_call 10; exact quietD (D _ rfl)))
    go_wp2_with fail
    go_ret
    exact ⟨rfl, below_drewN (below_drewN BF _) _⟩
  have hc : cmp x y = 0 := by rw [cmp, if_neg h1, if_neg h2]
  rw [hc] at D
  clear hc
  go_wp2_with fail
  go_quiet ((go_at_call 10; exact quietD (D _ rfl)))
  go_wp2_with fail
  go_ret
  exact ⟨rfl, below_drewN (below_drewN BF _) _⟩

end Go.Proofs.Qxb6630060a
