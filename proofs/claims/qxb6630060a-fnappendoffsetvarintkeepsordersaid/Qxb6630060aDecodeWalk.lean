/- Seat b6630060a: the law FnAppendOffsetVarintDecodesBack, walked. -/
import Derived.Test.Qxb6630060aAppend
namespace Go.Proofs.Qxb6630060a
open Go.RowKit
set_option linter.unusedVariables false

theorem bytes_grown {w w' : World} {ao : Option Addr} {l : List Int} {b off : Nat} {r : Option Nat} (h : BytesAt w ao l b off) (hg : w.grownBy w' r) (hr : some b ≠ r) : BytesAt w' ao l b off := by
  by_cases hp : 0 < l.length
  · exact h.block (hg.block b (h.lt hp) hr)
  · obtain rfl : l = [] := List.length_eq_zero_iff.1 (by omega)
    exact ⟨h.addr, fun k c hk => by simp at hk, h.range⟩

theorem u64_and127 (n : Int) : bits .and .u64 n 127 = n % 128 := by
  have h127 : (BitVec.ofInt 64 127).toNat = 2 ^ 7 - 1 := by decide
  have key : (BitVec.ofInt 64 n &&& BitVec.ofInt 64 127).toNat = (n % ((2 ^ 64 : Nat) : Int)).toNat % 2 ^ 7 := by
    rw [BitVec.toNat_and, BitVec.toNat_ofInt, h127, Nat.and_two_pow_sub_one_eq_mod]
  show IntKind.u64.wrap ((BitVec.ofInt 64 n &&& BitVec.ofInt 64 127).toNat : Nat) = n % 128
  rw [key, IntKind.wrap_u64]
  omega
theorem u64_low (x : Int) : bits .and .u64 (IntKind.u64.wrap x) 127 = x % 128 := by
  rw [u64_and127, IntKind.wrap_u64]
  omega
theorem wraps_u64 (n : Int) (h₀ : 0 ≤ n) (h₁ : n < 2 ^ 63) : IntKind.u64.wrap n = n := by rw [IntKind.wrap_u64]; omega
theorem u64_join (v d : Int) (h0 : 0 ≤ v) (h1 : v ≤ 72057594037927934) (h2 : 0 ≤ d) (h3 : d < 128) : bits .or .u64 ((v + 1) * 128) d = (v + 1) * 128 + d :=
  bits_join .u64 63 (by decide) wraps_u64 7 ((v + 1) * 128) d (by omega) (by omega) (by omega) h2 (by omega) (by omega)

theorem and128Tab : ∀ n : Fin 256, bits BinOp.and IntKind.u8 (n.val : Int) 128 = if n.val < 128 then 0 else 128 := by decide +kernel
theorem and128 (c : Int) (h0 : 0 ≤ c) (h1 : c ≤ 255) : bits BinOp.and IntKind.u8 c 128 = if c < 128 then 0 else 128 := by
  have := and128Tab ⟨c.toNat, by omega⟩
  rw [show ((⟨c.toNat, by omega⟩ : Fin 256).val : Int) = c by simp; omega] at this
  rw [this]
  by_cases h : c < 128
  · rw [if_pos h, if_pos (by show c.toNat < 128; omega)]
  · rw [if_neg h, if_neg (by show ¬ c.toNat < 128; omega)]
theorem and127Tab : ∀ n : Fin 256, bits BinOp.and IntKind.u8 (n.val : Int) 127 = (n.val : Int) % 128 := by decide +kernel
theorem and127 (c : Int) (h0 : 0 ≤ c) (h1 : c ≤ 255) : bits BinOp.and IntKind.u8 c 127 = c % 128 := by
  have := and127Tab ⟨c.toNat, by omega⟩
  rw [show ((⟨c.toNat, by omega⟩ : Fin 256).val : Int) = c by simp; omega] at this
  exact this

set_option maxHeartbeats 1000000 in
set_option maxRecDepth 100000 in
theorem decode_walk (ao : Option Addr) (n c : Nat) (l : List Int) (b off : Nat) (x : Int) (w : World) (hl : l.length = n) (h : BytesAt w ao l b off) (h0 : ao = none → n = 0 ∧ c = 0) (hx0 : -9223372036854775808 ≤ x) (hx1 : x ≤ 9223372036854775807) :
    Calls Try.prog 3 #[.slice ao n c, .int .i64 x] w fun e w' => e = .returned (.bool true) ∧ Below w.heap.size w w' := by
  go_enter Try.func3, Try.ntmps3
  go_wp2_with fail
  refine (zzBytesD_any ao n c x w).mono ?_
  rintro e w' ⟨⟨r, rfl⟩, hw⟩
  have hw' := hw.symm
  subst hw'
  clear hw
  cases r
  · go_wp2
    go_ret
    exact ⟨rfl, Below.refl _ _⟩
  by_cases hn : n ≤ 1048576
  rotate_left
  · go_wp2
    go_ret
    exact ⟨rfl, Below.refl _ _⟩
  go_wp2_with fail
  refine (clone_any ao n c l b off w hl h hn h0).mono ?_
  rintro e w1 ⟨ao1, b1, c1, rfl, O1, M1, h01, hb1, B1⟩
  go_wp2_with fail
  refine (clone_any ao1 n c1 l b1 0 w1 hl M1 hn h01).mono ?_
  rintro e w2 ⟨ao2, b2, c2, rfl, O2, M2, h02, hb2, hB2⟩
  have B2 : Below w.heap.size w w2 := B1.trans (hB2.mono B1.size)
  have O12 := own_below O1 hB2 (Nat.le_refl _)
  go_wp2_with fail
  refine (append_any w.heap.size (.slice ao1 n c1) l x w2 O12 (by omega) hx0 hx1 B2.size).mono ?_
  rintro e w3 ⟨v3, rfl, O3, G3⟩
  obtain ⟨ao3, g, cap, rfl, M3, hao3, hcap, hcapm⟩ := O3.bytes (by
    intro c hc
    simp only [List.mem_append] at hc
    rcases hc with hc | hc
    · exact h.range c hc
    · exact encI_range x c hc)
  have hEp := encI_pos x
  have hE9 := encI_length x
  obtain rfl : ao3 = some ⟨g, 0, none⟩ := by
    rcases hao3 with ⟨_, h⟩ | h
    · have := congrArg List.length h
      rw [List.length_append, List.length_nil] at this
      omega
    · exact h.1
  have hg : w.heap.size ≤ g := by
    rcases hao3 with ⟨h, _⟩ | h
    · cases h
    · exact h.2.1
  have M23 : BytesAt w3 ao2 l b2 0 := by
    rcases hb2 with ⟨_, hlo, _⟩ | hnone
    · refine bytes_grown M2 G3 ?_
      rcases hb1 with ⟨rfl, _, hhi⟩ | rfl
      · intro he
        have he' : b2 = b1 := Option.some.inj he
        omega
      · simp [Value.ownBlock]
    · obtain ⟨rfl, _⟩ := h02 hnone
      obtain rfl : l = [] := List.length_eq_zero_iff.1 hl
      exact ⟨fun hp => by simp at hp, fun k c hk => by simp at hk, h.range⟩
  have B3 : Below w.heap.size w w3 := B2.grown G3 B2.size (by
    intro k hk
    rcases hb1 with ⟨rfl, hlo, _⟩ | rfl
    · simp [Value.ownBlock] at hk; omega
    · simp [Value.ownBlock] at hk)
  obtain ⟨E, hE⟩ : ∃ E, E = encI x := ⟨_, rfl⟩
  rw [← hE] at M3 hEp hE9 hcap ⊢
  rw [List.length_append, hl] at hcap ⊢
  have HE : Hid (E = encI x) := hE
  obtain ⟨K, hK⟩ : ∃ K, K = E.length := ⟨_, rfl⟩
  rw [← hK] at hEp hE9 hcap ⊢
  have HK : Hid (K = E.length) := hK
  clear hE hK O1 O2 O12 O3 M1 M2 hao3 hb1 hb2 h01 B1 B2 hB2 G3
  unfold maxLen at hcapm
  go_wp2_with fail
  refine (hasPrefix_any (some ⟨g, 0, none⟩) ao2 (n + K) cap n c2 g 0 b2 0 (l ++ E) l w3 (by rw [List.length_append, hl, HK.out]) hl M3 M23 (by omega) (by rw [← hl]; simp)).mono ?_
  rintro e w4 ⟨rfl, m4, rfl⟩
  have ME : BytesAt w3 (some ⟨g, n, none⟩) E g n := by
    have := M3.drop (ao' := some ⟨g, n, none⟩) n (fun _ => by simp)
    rw [show (l ++ E).drop n = E by rw [← hl]; simp, Nat.zero_add] at this
    exact this
  have B4 : Below w.heap.size w (w3.drewN m4) := below_drewN B3 m4
  clear M3 M23 B3
  have hcn : ¬ cap = n := by omega
  by_cases hx : x < 0
  · have hEs : E = [x % 128] := by rw [HE.out, encI, if_pos hx]
    have hK1 : K = 1 := by rw [HK.out, hEs]; rfl
    subst hK1
    have c0 := ME.cells 0 (x % 128) (by rw [hEs]; rfl)
    rw [Nat.add_zero] at c0
    clear hEs HE HK ME
    have hu := u64_low x
    go_wp2_with fail
    go_ret
    exact ⟨rfl, B4⟩
  · obtain ⟨N, hN⟩ := Int.eq_ofNat_of_zero_le (show 0 ≤ x by omega)
    subst hN
    have hEs : E = enc N := by rw [HE.out, encI, if_neg hx]; rfl
    have HEs : Hid (E = enc N) := hEs
    clear hEs HE
    go_wp2_with fail
    go_loop [9] (fun ii => ∃ i : Nat, i + 1 ≤ K ∧ ii = .int .i64 i) (fun ii => K - (intOf ii).toNat)
    case atStart => exact ⟨0, by omega, rfl⟩
    case round =>
      obtain ⟨i, hi, rfl⟩ := hrel
      obtain ⟨y, hy, hyr, hyc⟩ := ME.at (k := i) (by rw [← HK.out]; omega)
      by_cases hlt : i + 1 < K
      · have hhi : 128 ≤ y := enc_high N i (by rw [← HEs.out, ← HK.out]; exact hlt) y (by rw [← HEs.out]; exact hy)
        have ha : bits BinOp.and IntKind.u8 y 128 = 128 := by rw [and128 y hyr.1 hyr.2, if_neg (by omega)]
        clear hy
        go_wp2_with fail
        go_round
        case rel => exact ⟨i + 1, by omega, by go_num⟩
        case measure => simp [intOf]; omega
      · have hlo : y < 128 := enc_last N i (by rw [← HEs.out, ← HK.out]; omega) y (by rw [← HEs.out]; exact hy)
        have ha : bits BinOp.and IntKind.u8 y 128 = 0 := by rw [and128 y hyr.1 hyr.2, if_pos hlo]
        obtain ⟨z, zs, hz1, hz2⟩ := enc_dec N (by omega)
        have hzc := ME.cells 0 z (by rw [HEs.out, hz1]; rfl)
        have hzr := ME.range z (by rw [HEs.out, hz1]; simp)
        rw [Nat.add_zero] at hzc
        have hza := and127 z hzr.1 hzr.2
        have HZ : Hid (decF (z % 128) (E.drop 1) = (N : Int)) := by
          show decF (z % 128) (E.drop 1) = (N : Int)
          rw [HEs.out, hz1]
          exact hz2
        obtain rfl : K = i + 1 := by omega
        clear hy hz1 hz2
        go_wp2_with fail
        go_loop [10, 11] (fun vv jj => ∃ (j : Nat) (v : Int), 1 ≤ j ∧ j ≤ i + 1 ∧ jj = .int .i64 j ∧ vv = .int .u64 v ∧ 0 ≤ v ∧ decF v (E.drop j) = (N : Int)) (fun _ jj => i + 1 - (intOf jj).toNat)
        case atStart => exact ⟨1, _, by omega, by omega, rfl, rfl, by omega, HZ.out⟩
        case round =>
          obtain ⟨j, v, hj1, hj, rfl, rfl, hv0, hdec⟩ := hrel
          by_cases hjl : j < i + 1
          · obtain ⟨t, ht, htr, htc⟩ := ME.at (k := j) (by rw [← HK.out]; omega)
            have hdec2 : decF ((v + 1) * 128 + t % 128) (E.drop (j + 1)) = (N : Int) := by
              rw [← hdec]
              obtain ⟨h1, rfl⟩ := List.getElem?_eq_some_iff.1 ht
              rw [List.drop_eq_getElem_cons h1, decF]
            have hge := decF_ge ((v + 1) * 128 + t % 128) (E.drop (j + 1)) (by omega)
            rw [hdec2] at hge
            have HD : Hid (decF ((v + 1) * 128 + t % 128) (E.drop (j + 1)) = (N : Int)) := hdec2
            have hta := and127 t htr.1 htr.2
            have hor := u64_join v (t % 128) hv0 (by omega) (by omega) (by omega)
            clear hdec hdec2 ht
            go_wp2_with fail
            go_round
            case rel => exact ⟨j + 1, _, by omega, by omega, by go_num, rfl, by omega, HD.out⟩
            case measure => simp [intOf]; omega
          · have hvN : v = (N : Int) := by
              rw [List.drop_eq_nil_of_le (by rw [← HK.out]; omega), decF] at hdec
              exact hdec
            subst hvN
            clear hdec
            go_wp2
            go_ret
            exact ⟨rfl, B4⟩

end Go.Proofs.Qxb6630060a
