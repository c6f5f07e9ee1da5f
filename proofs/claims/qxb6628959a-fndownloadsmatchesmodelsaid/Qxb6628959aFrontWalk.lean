/- Seat b6628959a: the law FnDownloadsFrontExactReplacementWins, walked. -/
import Derived.Test.Qxb6628959aDown
import Derived.Test.Qxb6628959aZzF
import Derived.Deep.QuietTactic
import Derived.BigQuiet
namespace Go.Proofs.Qxb6628959a
open Go.RowKit Go.Deep

theorem own_mods {w : World} {B : Nat} {v : Value} {acc : List M} (h : Own w B v acc) : ∃ ao g cap, v = .slice ao acc.length cap ∧ ModsAt w ao acc g 0 ∧ (0 < acc.length → B ≤ g) := by
  rcases h.2 with ⟨rfl, h0⟩ | ⟨g, cap, cur, rfl, hg, hh, r⟩
  · refine ⟨none, 0, 0, by rw [h0], ⟨fun hp => by omega, fun k p v hk => ?_⟩, fun hp => by omega⟩
    have : acc = [] := List.length_eq_zero_iff.1 h0
    subst this
    simp at hk
  · refine ⟨_, g, cap, rfl, ⟨fun _ => rfl, fun k p v hk => ?_⟩, fun _ => hg⟩
    have hkn := (List.getElem?_eq_some_iff.1 hk).1
    obtain ⟨e1, e2⟩ := cellsOf_at hk
    have h' : w.ownsRow B 38 2 (.slice (some ⟨g, 0, none⟩) acc.length cap) acc.length (cellsOf acc) := h
    rw [Nat.zero_add]
    exact ⟨(h'.cellAt _ (by omega)).trans e1, (h'.cellAt _ (by omega)).trans e2⟩

/-- Downloads, its result as a slice of modules. -/
theorem downloads_mods (fb : Nat) (ao ao2 : Option Addr) (n c n2 c2 : Nat) (l : List M) (l2 : List (M × M)) (b off b2 off2 : Nat) (w : World) (hl : l.length = n) (hl2 : l2.length = n2)
    (hn : n ≤ 4096) (hn2 : n2 ≤ 4097) (h : ModsAt w ao l b off) (h2 : RepsAt w ao2 l2 b2 off2) (hf0 : w.cell? ⟨fb, 0, none⟩ = some (.slice ao n c)) (hf1 : w.cell? ⟨fb, 1, none⟩ = some (.slice ao2 n2 c2)) :
    Calls Try.prog 9 #[.pointer (some ⟨fb, 0, none⟩)] w fun e w' => ∃ ao' g cap, e = .returned (.slice ao' (dl l2 l).length cap) ∧ ModsAt w' ao' (dl l2 l) g 0 ∧ Below w.heap.size w w' :=
  (downloads_any fb ao ao2 n c n2 c2 l l2 b off b2 off2 w hl hl2 hn hn2 h h2 hf0 hf1).mono fun e w' ⟨v, he, ho, hb⟩ => by
    obtain ⟨ao', g, cap, rfl, hm, _⟩ := own_mods ho
    exact ⟨ao', g, cap, he, hm, hb⟩

theorem make27_one (w : World) : (Instr.makeSlice 27 (.int .i64 1) (.int .i64 1)).run Try.prog w = .ok (.slice (some ⟨w.heap.size, 0, none⟩) 1 1) (w.alloc (.cells #[es, es] 38)) := by kernel_rfl

/-- The first k replacements of l stand in the row. -/
def Upto4 (l : List (M × M)) (k : Nat) (f : Nat → ByteArray) : Prop := ∀ j p v q u, j < k → l[j]? = some ((p, v), (q, u)) → f (j * 4) = p ∧ f (j * 4 + 1) = v ∧ f (j * 4 + 2) = q ∧ f (j * 4 + 3) = u
theorem Upto4.succ {l : List (M × M)} {k : Nat} {f : Nat → ByteArray} (h : Upto4 l k f) {p v q u : ByteArray} (hk : l[k]? = some ((p, v), (q, u))) :
    Upto4 l (k + 1) (fun j => if j = k * 4 + 3 then u else if j = k * 4 + 2 then q else if j = k * 4 + 1 then v else if j = k * 4 then p else f j) := by
  intro j p' v' q' u' hj hq
  by_cases e : j = k
  · subst e
    rw [hk] at hq
    simp at hq
    obtain ⟨⟨rfl, rfl⟩, rfl, rfl⟩ := hq
    simp
  · have := h j p' v' q' u' (by omega) hq
    simp only []
    rw [if_neg (by omega), if_neg (by omega), if_neg (by omega), if_neg (by omega), if_neg (by omega), if_neg (by omega), if_neg (by omega), if_neg (by omega), if_neg (by omega), if_neg (by omega), if_neg (by omega), if_neg (by omega), if_neg (by omega), if_neg (by omega), if_neg (by omega), if_neg (by omega)]
    exact this
theorem reps_of_strs {w : World} {B e n : Nat} {l : List (M × M)} {f : Nat → ByteArray} (h : Strs w B e (n * 4) f) (hl : l.length = n) (hu : Upto4 l n f) : RepsAt w (some ⟨B, 0, none⟩) l B 0 := by
  refine ⟨fun _ => rfl, fun k p v q u hk => ?_⟩
  have hkn : k < n := by
    have := (List.getElem?_eq_some_iff.1 hk).1
    omega
  obtain ⟨e1, e2, e3, e4⟩ := hu k p v q u hkn hk
  rw [Nat.zero_add]
  exact ⟨by rw [h.cell (by omega), e1], by rw [h.cell (by omega), e2], by rw [h.cell (by omega), e3], by rw [h.cell (by omega), e4]⟩
/-- Behind the first replacement lie the others. -/
theorem reps_tail {w : World} {B : Nat} {x : M × M} {l : List (M × M)} {ao ao' : Option Addr} (h : RepsAt w ao (x :: l) B 0) (ha : 0 < l.length → ao' = some ⟨B, 4, none⟩) : RepsAt w ao' l B 4 := by
  refine ⟨ha, fun k p v q u hk => ?_⟩
  have := h.cells (k + 1) p v q u (by simpa using hk)
  rw [show 4 + k * 4 = 0 + (k + 1) * 4 by omega]
  exact this

theorem front_step {full : List (M × M)} {l : List M} {k i : Nat} {p v : ByteArray} {G : List M} {m : M} (hi : l[i]? = some (p, v)) (hG : G.drop k = dl full (l.drop i)) (hp : pick (p, v) (p, v) full = m) (hm : m.2.toList.isEmpty = false) :
    G[k]? = some m ∧ G.drop (k + 1) = dl full (l.drop (i + 1)) ∧ k < G.length := by
  rw [dl_step full hi, hp, sNil, hm] at hG
  simp only [Bool.false_eq_true, if_false, List.singleton_append] at hG
  have hk : k < G.length := by
    have := congrArg List.length hG
    simp at this
    omega
  rw [List.drop_eq_getElem_cons hk] at hG
  simp only [List.cons.injEq] at hG
  exact ⟨by rw [List.getElem?_eq_getElem hk, hG.1], hG.2, hk⟩
theorem front_none {full : List (M × M)} {l : List M} {k i : Nat} {p v : ByteArray} {G : List M} {m : M} (hi : l[i]? = some (p, v)) (hG : G.drop k = dl full (l.drop i)) (hp : pick (p, v) (p, v) full = m) (hm : m.2.toList.isEmpty = true) :
    G.drop k = dl full (l.drop (i + 1)) := by
  rw [hG, dl_step full hi, hp, sNil, hm]
  simp
theorem pick_is_new {l2 : List (M × M)} {op ov np nv p v : ByteArray} (ho : ov.toList.isEmpty = false) (e1 : (p.toList == op.toList) = true) (e2 : (v.toList == ov.toList) = true) : pick (p, v) (p, v) (((op, ov), (np, nv)) :: l2) = (np, nv) := by
  rw [pick_front l2 (op, ov) (np, nv) (p, v) ho]
  simp [sEq, e1, e2]
theorem pick_is_old {l2 : List (M × M)} {op ov np nv p v : ByteArray} (ho : ov.toList.isEmpty = false) (e : ((p.toList == op.toList) && (v.toList == ov.toList)) = false) : pick (p, v) (p, v) (((op, ov), (np, nv)) :: l2) = pick (p, v) (p, v) l2 := by
  rw [pick_front l2 (op, ov) (np, nv) (p, v) ho]
  simp only [sEq, e]
  simp
theorem front_part {l2 : List (M × M)} {l : List M} {k i : Nat} {op ov np nv p v : ByteArray} {G : List M} (ho : ov.toList.isEmpty = false) (hi : l[i]? = some (p, v)) (hG : G.drop k = dl (((op, ov), (np, nv)) :: l2) (l.drop i))
    (e : ((p.toList == op.toList) && (v.toList == ov.toList)) = false) : G.drop k = dl l2 [(p, v)] ++ dl (((op, ov), (np, nv)) :: l2) (l.drop (i + 1)) := by
  rw [hG, dl_step _ hi, pick_is_old ho e, dl_one]

theorem mods_one {w : World} {B t : Nat} {p v : ByteArray} (h : Two w B t p v) : ModsAt w (some ⟨B, 0, none⟩) [(p, v)] B 0 := by
  refine ⟨fun _ => rfl, fun k q u hk => ?_⟩
  match k, hk with
  | 0, hk =>
    simp at hk
    obtain ⟨rfl, rfl⟩ := hk
    exact ⟨h.c0, h.c1⟩
  | (k + 1), hk => simp at hk
theorem head_of_drop {G T R : List M} {k q : Nat} {m : M} (h : G.drop k = T.drop q ++ R) (ht : T[q]? = some m) : G[k]? = some m ∧ G.drop (k + 1) = T.drop (q + 1) ++ R ∧ k < G.length := by
  rw [drop_at ht] at h
  have hk : k < G.length := by
    have := congrArg List.length h
    simp at this
    omega
  rw [List.drop_eq_getElem_cons hk] at h
  simp only [List.cons_append, List.cons.injEq] at h
  exact ⟨by rw [List.getElem?_eq_getElem hk, h.1], h.2, hk⟩

theorem pair_new (w : World) (a b : Value) (t N : Nat) (hN : N = w.heap.size) : (w.alloc (.cells #[a, b] t)).cell? ⟨N, 0, none⟩ = some a ∧ (w.alloc (.cells #[a, b] t)).cell? ⟨N, 1, none⟩ = some b := by
  subst hN
  exact ⟨by simp, by simp⟩
theorem size_set2 (w : World) (a b : Addr) (x y : Value) : w.heap.size = ((w.setCell a x).setCell b y).heap.size := by simp [World.setCell]

theorem tail_done {G T R : List M} {k q : Nat} (h : G.drop k = T.drop q ++ R) (hq : T.length ≤ q) : G.drop k = R := by
  rw [h, List.drop_eq_nil_of_le hq, List.nil_append]

theorem make29s (n : Nat) (hn : n ≤ 4096) (w : World) :
    (Instr.makeSlice 29 (.int .i64 ((n : Int) + 1)) (.int .i64 ((n : Int) + 1))).run Try.prog w = .ok (.slice (some ⟨w.heap.size, 0, none⟩) (n + 1) (n + 1)) (w.alloc (.cells (madeCells #[es, es, es, es] ((n + 1) * 4)) 42)) := by
  have := make29 (n + 1) (by omega) w
  rw [show ((n + 1 : Nat) : Int) = (n : Int) + 1 by omega] at this
  exact this

set_option maxHeartbeats 2000000 in
set_option maxRecDepth 100000 in
theorem front_walk (ao ao2 : Option Addr) (n c n2 c2 : Nat) (l : List M) (l2 : List (M × M)) (b off b2 off2 : Nat) (op ov np nv : ByteArray) (w : World) (hl : l.length = n) (hl2 : l2.length = n2)
    (h : ModsAt w ao l b off) (h2 : RepsAt w ao2 l2 b2 off2) (h0 : ao = none → n = 0 ∧ c = 0) :
    Calls Try.prog 4 #[.slice ao n c, .slice ao2 n2 c2, .agg #[.string op, .string ov], .agg #[.string np, .string nv]] w fun e w' => e = .returned (.bool true) ∧ Below w.heap.size w w' := by
  have hB0 : Below w.heap.size w ((w.alloc (.cells #[.string op, .string ov] 35)).alloc (.cells #[.string np, .string nv] 35)) := ((Below.refl _ _).alloc (Nat.le_refl _) _).alloc (by simp) _
  have o0 : Two ((w.alloc (.cells #[.string op, .string ov] 35)).alloc (.cells #[.string np, .string nv] 35)) w.heap.size 35 op ov := (Two.new _ _ _ _).alloc _
  have o1 : Two ((w.alloc (.cells #[.string op, .string ov] 35)).alloc (.cells #[.string np, .string nv] 35)) (w.heap.size + 1) 35 np nv := by
    have := Two.new (w.alloc (.cells #[.string op, .string ov] 35)) 35 np nv
    simpa using this
  go_enter Try.func4, Try.ntmps4
  go_wp2_with fail
  refine (zzBytesF_any ao ao2 n c n2 c2 l l2 b off b2 off2 op ov np nv _ hl hl2 (h.on hB0) (h2.on hB0)).mono ?_
  rintro e w1 ⟨⟨r, rfl⟩, hb1⟩
  have Hb1 : Below w.heap.size w w1 := hB0.trans (hb1.mono (by simp; omega))
  have Hs : w.heap.size + 2 ≤ w1.heap.size := by have := hb1.size; simp at this; omega
  have O0 := o0.below hb1 (by simp; omega)
  have O1 := o1.below hb1 (by simp)
  have M1 := h.on Hb1
  have R1 := h2.on Hb1
  clear hB0 o0 o1 hb1 h h2
  have c0 := O0.c0
  have c1 := O0.c1
  have c2' := O1.c0
  have c3 := O1.c1
  cases r
  · go_wp2
    go_ret
    exact ⟨rfl, Hb1⟩
  by_cases hn : n ≤ 4096
  rotate_left
  · go_wp2
    go_ret
    exact ⟨rfl, Hb1⟩
  by_cases hn2 : n2 ≤ 4096
  rotate_left
  · go_wp2
    go_ret
    exact ⟨rfl, Hb1⟩
  go_wp2_with fail
  refine (addMod_any _ _ _ _).mono ?_
  rintro e w2 ⟨⟨r2, rfl⟩, hb2⟩
  have q2 := (hb2.cell (p := ⟨w.heap.size + 1, 0, none⟩) (by show w.heap.size + 1 < _; omega)).trans c2'
  have q3 := (hb2.cell (p := ⟨w.heap.size + 1, 1, none⟩) (by show w.heap.size + 1 < _; omega)).trans c3
  go_wp2_with fail
  refine (addMod_any _ _ _ _).mono ?_
  rintro e w3 ⟨⟨r3, rfl⟩, hb3⟩
  have Hb3 : Below w1.heap.size w1 w3 := hb2.trans (hb3.mono hb2.size)
  by_cases hr3 : r3 < 0
  · go_wp2
    go_ret
    exact ⟨rfl, Hb1.trans (Hb3.mono (by omega))⟩
  go_wp2_with fail
  refine (bytesUsed_any _ ao ao2 n c n2 c2 l l2 b off b2 off2 _ hl hl2 (M1.on Hb3) (R1.on Hb3) hn hn2).mono ?_
  rintro e w4 ⟨⟨r4, rfl⟩, hb4⟩
  have Hb4 : Below w1.heap.size w1 w4 := Hb3.trans (hb4.mono Hb3.size)
  have M4 := M1.on Hb4
  have R4 := R1.on Hb4
  have O4 := O0.below Hb4 (by omega)
  have P4 := O1.below Hb4 (by omega)
  have S4 : w.heap.size + 2 ≤ w4.heap.size := by have := Hb4.size; omega
  have B4 : Below w.heap.size w w4 := Hb1.trans (Hb4.mono (by omega))
  clear q2 q3 c0 c1 c2' c3 hb2 hb3 hb4 Hb3 Hb4 Hb1 O0 O1 M1 R1 Hs
  have c0 := O4.c0
  have c1 := O4.c1
  have c2' := P4.c0
  have c3 := P4.c1
  by_cases hr4 : r4 < 0
  · go_wp2
    go_ret
    exact ⟨rfl, B4⟩
  cases hov : ov.toList.isEmpty
  rotate_left
  · go_wp2
    go_ret
    exact ⟨rfl, B4⟩
  have hmk := make29s n2 hn2
  have s0 : w.heap.size < w4.heap.size := by omega
  have s1 : w.heap.size + 1 < w4.heap.size := by omega
  go_wp2_with fail
  refine (toModule_any _ _ _).mono ?_
  rintro e w5 ⟨rfl, hb5⟩
  have S5 : Strs w5 w4.heap.size 42 ((n2 + 1) * 4) (fun _ => ⟨#[]⟩) := Strs.below (made4 _ _ _ _) hb5 (by simp)
  have B5 : Below w4.heap.size w4 w5 := ((Below.refl _ _).alloc (Nat.le_refl _) _).trans (hb5.mono (by simp))
  have HS5 : Hid (Strs w5 w4.heap.size 42 ((n2 + 1) * 4) (fun _ => ⟨#[]⟩)) := S5
  have f5 := S5.frozen
  have g0 := S5.cell (i := 0) (by omega)
  have g1 := S5.cell (i := 1) (by omega)
  have k2 := (B5.cell (p := ⟨w.heap.size + 1, 0, none⟩) s1).trans c2'
  have k3 := (B5.cell (p := ⟨w.heap.size + 1, 1, none⟩) s1).trans c3
  have z0 : ¬ w4.heap.size = w.heap.size + 1 := by omega
  clear S5 hb5 hmk
  go_wp2_with fail
  refine (toModule_any _ _ _).mono ?_
  rintro e w6 ⟨rfl, hb6⟩
  have S6 := ((HS5.out.set 0 op).set 1 ov).on hb6
  have B6 : Below w4.heap.size w4 w6 := ((B5.setCell (Nat.le_refl _) _).setCell (Nat.le_refl _) _).trans (hb6.mono (by have := B5.size; simpa [World.setCell] using this))
  clear f5 g0 g1 k2 k3 hb6
  have f6 := S6.frozen
  have g2 := S6.cell (i := 2) (by omega)
  have g3 := S6.cell (i := 3) (by omega)
  have HS6 := id S6
  clear S6
  go_wp2_with fail
  go_loopw [11] (fun i wr => ∃ (j : Nat) (f : Nat → ByteArray), j ≤ n2 ∧ i = .int .i64 j ∧ Strs wr w4.heap.size 42 ((n2 + 1) * 4) f ∧ Upto4 (((op, ov), (np, nv)) :: l2) (j + 1) f ∧ Below w4.heap.size w4 wr) (fun i _ => n2 - (intOf i).toNat)
  case atStart => 
    refine ⟨0, _, Nat.zero_le _, rfl, (HS6.set _ _).set _ _, ?_, (B6.setCell (Nat.le_refl _) _).setCell (Nat.le_refl _) _⟩
    intro j p v q u hj hq
    obtain rfl : j = 0 := by omega
    simp at hq
    obtain ⟨⟨rfl, rfl⟩, rfl, rfl⟩ := hq
    simp
  case round =>
    clear f6 g2 g3 HS6 B6 B5 HS5
    obtain ⟨j, f, hj, rfl, hs, hu, hb⟩ := hrel
    by_cases hlt : j < n2
    · obtain ⟨p, v, q, u, hkv⟩ := at_reps (l := l2) (k := j) (by omega)
      have hix := fun w => ix23 (c := c2) (b := b2) (off := off2) hlt (R4.addr (by omega)) w
      have hB := R4.lt (by omega)
      have hBn : ¬ w4.heap.size = b2 := by omega
      obtain ⟨d1, d2, d3, d4⟩ := (R4.on hb).cells j p v q u hkv
      have HS : Hid (Strs wr w4.heap.size 42 ((n2 + 1) * 4) f) := hs
      have HU : Hid (Upto4 (((op, ov), (np, nv)) :: l2) (j + 1) f) := hu
      have HK : Hid (l2[j]? = some ((p, v), (q, u))) := hkv
      clear hs hu hkv
      go_wp2_with fail
      refine (toModule_any _ _ _).mono ?_
      rintro e w7 ⟨rfl, hb7⟩
      have S7 := HS.out.on hb7
      have B7 : Below w4.heap.size w4 w7 := hb.trans (hb7.mono hb.size)
      have f7 := S7.frozen
      have g0 := S7.cell (i := (j + 1) * 4) (by omega)
      have g1 := S7.cell (i := (j + 1) * 4 + 1) (by omega)
      have e3 := (B7.cell (p := ⟨b2, off2 + j * 4 + 2, none⟩) hB).trans (R4.cells j p v q u HK.out).2.2.1
      have e4 := (B7.cell (p := ⟨b2, off2 + j * 4 + 3, none⟩) hB).trans (R4.cells j p v q u HK.out).2.2.2
      have HS7 : Hid (Strs w7 w4.heap.size 42 ((n2 + 1) * 4) f) := S7
      clear S7 hb7 d1 d2 d3 d4
      go_wp2_with fail
      refine (toModule_any _ _ _).mono ?_
      rintro e w8 ⟨rfl, hb8⟩
      have S8 := (Strs.set (Strs.set HS7.out _ p) _ v).on hb8
      have B8 : Below w4.heap.size w4 w8 := ((B7.setCell (Nat.le_refl _) _).setCell (Nat.le_refl _) _).trans (hb8.mono (by have := B7.size; simpa [World.setCell] using this))
      have f8 := S8.frozen
      have g2 := S8.cell (i := (j + 1) * 4 + 2) (by omega)
      have g3 := S8.cell (i := (j + 1) * 4 + 3) (by omega)
      clear hb8 e3 e4 g0 g1 f7
      go_wp2_with fail
      go_roundw
      case rel => exact ⟨j + 1, _, by omega, by go_num, (S8.set _ _).set _ _, HU.out.succ (by simpa using HK.out), (B8.setCell (Nat.le_refl _) _).setCell (Nat.le_refl _) _⟩
      case measure => simp [intOf]; omega
    · obtain ⟨w9, rfl⟩ : ∃ w9 : World, w9 = wr := ⟨_, rfl⟩
      obtain rfl : n2 = j := by omega
      have F9 := reps_of_strs hs (by simp; omega) hu
      have M9 := M4.on hb
      clear hs hu hj hlt
      obtain ⟨aoB, hAB, hAB'⟩ : ∃ aoB : Option Addr, (if n2 = 0 then some (⟨w4.heap.size, 0, none⟩ : Addr) else some ⟨w4.heap.size, 4, none⟩) = aoB ∧ Hid (0 < n2 → aoB = some ⟨w4.heap.size, 4, none⟩) := ⟨_, rfl, fun hp => by rw [if_neg (by omega)]⟩
      go_wp2_with fail
      refine (toRequire_any ao n c l b off _ hl M9 hn h0).mono ?_
      rintro e w10 ⟨aoQ, bQ, rfl, MQ, hb10⟩
      go_wp2_with fail
      obtain ⟨G, hG⟩ : ∃ G, G = dl (((op, ov), (np, nv)) :: l2) l := ⟨_, rfl⟩
      have hB10 : Below w10.heap.size w10 (w10.alloc (.cells #[.slice aoQ n n, .slice (some ⟨w4.heap.size, 0, none⟩) (n2 + 1) (n2 + 1)] 32)) := (Below.refl _ _).alloc (Nat.le_refl _) _
      have D := downloads_mods w10.heap.size aoQ (some ⟨w4.heap.size, 0, none⟩) n n (n2 + 1) (n2 + 1) l (((op, ov), (np, nv)) :: l2) bQ 0 w4.heap.size 0 (w10.alloc (.cells #[.slice aoQ n n, .slice (some ⟨w4.heap.size, 0, none⟩) (n2 + 1) (n2 + 1)] 32)) hl (by simp; omega) hn (by omega)
        (MQ.on hB10) ((F9.on hb10).on hB10) (by simp) (by simp)
      rw [← hG] at D
      have HG : Hid (G = dl (((op, ov), (np, nv)) :: l2) l) := hG
      clear hG hB10
      refine D.mono ?_
      clear D
      rintro e w11 ⟨aoG, bG, cG, rfl, MG, hb11⟩
      have B11 : Below w9.heap.size w9 w11 := (hb10.alloc hb10.size _).trans (hb11.mono (by have := hb10.size; simp; omega))
      have M11 := M9.on B11
      have F11 := F9.on B11
      have C11 : Below w4.heap.size w4 w11 := hb.trans (B11.mono hb.size)
      have O11 := O4.below C11 s0
      have P11 := P4.below C11 s1
      have E11 : Below w.heap.size w w11 := B4.trans (C11.mono (by omega))
      have t0 : w.heap.size < w11.heap.size := by have := C11.size; omega
      have t1 : w.heap.size + 1 < w11.heap.size := by have := C11.size; omega
      have L11 := reps_tail F11 (ao' := aoB) (by rw [hl2]; exact hAB'.out)
      have hmk := make27_one
      clear hb10 hb11 B11 C11 F9 M9 MQ M4 R4 O4 P4 c0 c1 c2' c3 B4 S4 hb hAB hAB' s0 s1 z0
      go_wp2_with fail
      have hGn : G.length ≤ n := by rw [HG.out, ← hl]; exact dl_length _ _
      go_loopw [15, 16] (fun kk ii wr => ∃ (i k : Nat) (x y : ByteArray), i ≤ n ∧ ii = .int .i64 i ∧ kk = .int .i64 k ∧ k ≤ G.length ∧ G.drop k = dl (((op, ov), (np, nv)) :: l2) (l.drop i) ∧ Two wr w11.heap.size 38 x y ∧ Below w11.heap.size w11 wr) (fun _ ii _ => n - (intOf ii).toNat)
      case atStart => exact ⟨0, 0, _, _, Nat.zero_le _, rfl, rfl, Nat.zero_le _, by rw [List.drop_zero, List.drop_zero]; exact HG.out, Two.new _ _ _ _, (Below.refl _ _).alloc (Nat.le_refl _) _⟩
      case round =>
        obtain ⟨i, k, x, y, hi, rfl, rfl, hk, hd, hT, hb⟩ := hrel
        have HD : Hid (G.drop k = dl (((op, ov), (np, nv)) :: l2) (l.drop i)) := hd
        have HT : Hid (Two wr w11.heap.size 38 x y) := hT
        clear hd hT hmk
        have hsz := hb.size
        by_cases hlt : i < n
        · obtain ⟨p, v, hkv⟩ := at_mods (l := l) (k := i) (by omega)
          have HK : Hid (l[i]? = some (p, v)) := hkv
          have hix := fun w => ix22 (c := c) (b := b) (off := off) hlt (M11.addr (by omega)) w
          obtain ⟨hc1, hc2⟩ := (M11.on hb).cells i p v hkv
          have a0 := (hb.cell (p := ⟨w.heap.size, 0, none⟩) t0).trans O11.c0
          have a1 := (hb.cell (p := ⟨w.heap.size, 1, none⟩) t0).trans O11.c1
          have b0 := (hb.cell (p := ⟨w.heap.size + 1, 0, none⟩) t1).trans P11.c0
          have b1 := (hb.cell (p := ⟨w.heap.size + 1, 1, none⟩) t1).trans P11.c1
          clear hkv
          cases e1 : (p.toList == op.toList)
          · have hne : ((p.toList == op.toList) && (v.toList == ov.toList)) = false := by simp [e1]
            have HN : Hid (((p.toList == op.toList) && (v.toList == ov.toList)) = false) := hne
            clear hne
            go_wp2_with fail
            go_quiet (fail)
            go_wp2_with fail
            refine (toModule_any _ _ _).mono ?_
            rintro e w12 ⟨rfl, hb12⟩
            have B12 : Below w11.heap.size w11 w12 := (below_drewN hb nq).trans (hb12.mono hsz)
            have T12 : Two w12 w11.heap.size 38 x y := (show Two (wr.drewN nq) w11.heap.size 38 x y from HT.out).below hb12 HT.out.lt
            have S12 : w11.heap.size < w12.heap.size := T12.lt
            have HP : Hid (G.drop k = dl l2 [(p, v)] ++ dl (((op, ov), (np, nv)) :: l2) (l.drop (i + 1))) := front_part hov HK.out HD.out HN.out
            have k0 := T12.c0
            have k1 := T12.c1
            have kf0 := T12.frozen 0
            have kf1 := T12.frozen 1
            clear hb12 a0 a1 b0 b1 hc1 hc2 hix
            go_wp2_with fail
            have T13 := (T12.set p v).alloc (.cells #[.slice (some ⟨w11.heap.size, 0, none⟩) 1 1, .slice aoB n2 n2] 32)
            have B13 : Below w11.heap.size w11 (((w12.setCell ⟨w11.heap.size, 0, none⟩ (.string p)).setCell ⟨w11.heap.size, 1, none⟩ (.string v)).alloc (.cells #[.slice (some ⟨w11.heap.size, 0, none⟩) 1 1, .slice aoB n2 n2] 32)) := ((B12.setCell (p := ⟨w11.heap.size, 0, none⟩) (Nat.le_refl _) (.string p)).setCell (p := ⟨w11.heap.size, 1, none⟩) (Nat.le_refl _) (.string v)).alloc (by have := B12.size; simpa [World.setCell] using this) _
            obtain ⟨T, hTe⟩ : ∃ T, T = dl l2 [(p, v)] := ⟨_, rfl⟩
            have hTn : T.length ≤ 1 := by rw [hTe]; exact dl_length _ _
            have HP' : Hid (G.drop k = T ++ dl (((op, ov), (np, nv)) :: l2) (l.drop (i + 1))) := by rw [hTe]; exact HP.out
            have D := downloads_mods w12.heap.size (some ⟨w11.heap.size, 0, none⟩) aoB 1 1 n2 n2 [(p, v)] l2 w11.heap.size 0 w4.heap.size 4 _ rfl hl2 (by omega) (by omega) (mods_one T13) (L11.on B13) (pair_new _ _ _ _ _ (size_set2 _ _ _ _ _)).1 (pair_new _ _ _ _ _ (size_set2 _ _ _ _ _)).2
            rw [← hTe] at D
            refine D.mono ?_
            clear D HP hTe
            rintro e w15 ⟨aoT, bT, cT, rfl, MT, hb15⟩
            have B15 : Below w11.heap.size w11 w15 := B13.trans (hb15.mono B13.size)
            have T15 : Two w15 w11.heap.size 38 p v := T13.below hb15 T13.lt
            have S15 := B15.size
            clear hb15 B13 T13 k0 k1 kf0 kf1 T12 B12 HT hb
            go_wp2_with fail
            go_loopw [15, 18] (fun kk pp wi => ∃ (q kq : Nat), q ≤ T.length ∧ pp = .int .i64 q ∧ kk = .int .i64 kq ∧ kq ≤ G.length ∧ G.drop kq = T.drop q ++ dl (((op, ov), (np, nv)) :: l2) (l.drop (i + 1)) ∧ Below w15.heap.size w15 wi) (fun _ pp _ => T.length - (intOf pp).toNat)
            case atStart => exact ⟨0, k, Nat.zero_le _, rfl, rfl, hk, HP'.out, Below.refl _ _⟩
            case round =>
              obtain ⟨q, kq, hq, rfl, rfl, hkq, hdq, hbi⟩ := hrel
              by_cases hqt : q < T.length
              · obtain ⟨tp, tv, htq⟩ := at_mods (l := T) (k := q) hqt
                obtain ⟨hGk, hGd, hkl⟩ := head_of_drop hdq htq
                have HGd : Hid (G.drop (kq + 1) = T.drop (q + 1) ++ dl (((op, ov), (np, nv)) :: l2) (l.drop (i + 1))) := hGd
                have hix := fun w => ix27 (c := cT) (b := bT) (off := 0) hqt (MT.addr (by omega)) w
                have hix2 := fun w => ix27 (c := cG) (b := bG) (off := 0) hkl (MG.addr (by omega)) w
                obtain ⟨y1, y2⟩ := (MG.on (B15.trans (hbi.mono S15))).cells kq tp tv hGk
                obtain ⟨x1, x2⟩ := (MT.on hbi).cells q tp tv htq
                simp only [Nat.zero_add] at hix hix2 x1 x2 y1 y2
                clear hGk hGd hdq htq
                go_wp2_with fail
                go_quiet (fail)
                go_wp2_with fail
                go_roundw
                case rel => exact ⟨q + 1, kq + 1, by omega, by go_num, by go_num, by omega, HGd.out, below_drewN hbi _⟩
                case measure => simp [intOf]; omega
              · have HGd : Hid (G.drop kq = dl (((op, ov), (np, nv)) :: l2) (l.drop (i + 1))) := tail_done hdq (by omega)
                clear hdq
                go_wp2_with fail
                go_roundw
                case rel => exact ⟨i + 1, kq, p, v, by omega, by go_num, rfl, hkq, HGd.out, T15.below hbi T15.lt, B15.trans (hbi.mono S15)⟩
                case measure => simp [intOf]; omega
          · cases e2 : (v.toList == ov.toList)
            · have hne : ((p.toList == op.toList) && (v.toList == ov.toList)) = false := by simp [e1, e2]
              have HN : Hid (((p.toList == op.toList) && (v.toList == ov.toList)) = false) := hne
              clear hne
              go_wp2_with fail
              go_quiet (fail)
              go_wp2_with fail
              refine (toModule_any _ _ _).mono ?_
              rintro e w12 ⟨rfl, hb12⟩
              have B12 : Below w11.heap.size w11 w12 := (below_drewN hb nq).trans (hb12.mono hsz)
              have T12 : Two w12 w11.heap.size 38 x y := (show Two (wr.drewN nq) w11.heap.size 38 x y from HT.out).below hb12 HT.out.lt
              have S12 : w11.heap.size < w12.heap.size := T12.lt
              have HP : Hid (G.drop k = dl l2 [(p, v)] ++ dl (((op, ov), (np, nv)) :: l2) (l.drop (i + 1))) := front_part hov HK.out HD.out HN.out
              have k0 := T12.c0
              have k1 := T12.c1
              have kf0 := T12.frozen 0
              have kf1 := T12.frozen 1
              clear hb12 a0 a1 b0 b1 hc1 hc2 hix
              go_wp2_with fail
              have T13 := (T12.set p v).alloc (.cells #[.slice (some ⟨w11.heap.size, 0, none⟩) 1 1, .slice aoB n2 n2] 32)
              have B13 : Below w11.heap.size w11 (((w12.setCell ⟨w11.heap.size, 0, none⟩ (.string p)).setCell ⟨w11.heap.size, 1, none⟩ (.string v)).alloc (.cells #[.slice (some ⟨w11.heap.size, 0, none⟩) 1 1, .slice aoB n2 n2] 32)) := ((B12.setCell (p := ⟨w11.heap.size, 0, none⟩) (Nat.le_refl _) (.string p)).setCell (p := ⟨w11.heap.size, 1, none⟩) (Nat.le_refl _) (.string v)).alloc (by have := B12.size; simpa [World.setCell] using this) _
              obtain ⟨T, hTe⟩ : ∃ T, T = dl l2 [(p, v)] := ⟨_, rfl⟩
              have hTn : T.length ≤ 1 := by rw [hTe]; exact dl_length _ _
              have HP' : Hid (G.drop k = T ++ dl (((op, ov), (np, nv)) :: l2) (l.drop (i + 1))) := by rw [hTe]; exact HP.out
              have D := downloads_mods w12.heap.size (some ⟨w11.heap.size, 0, none⟩) aoB 1 1 n2 n2 [(p, v)] l2 w11.heap.size 0 w4.heap.size 4 _ rfl hl2 (by omega) (by omega) (mods_one T13) (L11.on B13) (pair_new _ _ _ _ _ (size_set2 _ _ _ _ _)).1 (pair_new _ _ _ _ _ (size_set2 _ _ _ _ _)).2
              rw [← hTe] at D
              refine D.mono ?_
              clear D HP hTe
              rintro e w15 ⟨aoT, bT, cT, rfl, MT, hb15⟩
              have B15 : Below w11.heap.size w11 w15 := B13.trans (hb15.mono B13.size)
              have T15 : Two w15 w11.heap.size 38 p v := T13.below hb15 T13.lt
              have S15 := B15.size
              clear hb15 B13 T13 k0 k1 kf0 kf1 T12 B12 HT hb
              go_wp2_with fail
              go_loopw [15, 18] (fun kk pp wi => ∃ (q kq : Nat), q ≤ T.length ∧ pp = .int .i64 q ∧ kk = .int .i64 kq ∧ kq ≤ G.length ∧ G.drop kq = T.drop q ++ dl (((op, ov), (np, nv)) :: l2) (l.drop (i + 1)) ∧ Below w15.heap.size w15 wi) (fun _ pp _ => T.length - (intOf pp).toNat)
              case atStart => exact ⟨0, k, Nat.zero_le _, rfl, rfl, hk, HP'.out, Below.refl _ _⟩
              case round =>
                obtain ⟨q, kq, hq, rfl, rfl, hkq, hdq, hbi⟩ := hrel
                by_cases hqt : q < T.length
                · obtain ⟨tp, tv, htq⟩ := at_mods (l := T) (k := q) hqt
                  obtain ⟨hGk, hGd, hkl⟩ := head_of_drop hdq htq
                  have HGd : Hid (G.drop (kq + 1) = T.drop (q + 1) ++ dl (((op, ov), (np, nv)) :: l2) (l.drop (i + 1))) := hGd
                  have hix := fun w => ix27 (c := cT) (b := bT) (off := 0) hqt (MT.addr (by omega)) w
                  have hix2 := fun w => ix27 (c := cG) (b := bG) (off := 0) hkl (MG.addr (by omega)) w
                  obtain ⟨y1, y2⟩ := (MG.on (B15.trans (hbi.mono S15))).cells kq tp tv hGk
                  obtain ⟨x1, x2⟩ := (MT.on hbi).cells q tp tv htq
                  simp only [Nat.zero_add] at hix hix2 x1 x2 y1 y2
                  clear hGk hGd hdq htq
                  go_wp2_with fail
                  go_quiet (fail)
                  go_wp2_with fail
                  go_roundw
                  case rel => exact ⟨q + 1, kq + 1, by omega, by go_num, by go_num, by omega, HGd.out, below_drewN hbi _⟩
                  case measure => simp [intOf]; omega
                · have HGd : Hid (G.drop kq = dl (((op, ov), (np, nv)) :: l2) (l.drop (i + 1))) := tail_done hdq (by omega)
                  clear hdq
                  go_wp2_with fail
                  go_roundw
                  case rel => exact ⟨i + 1, kq, p, v, by omega, by go_num, rfl, hkq, HGd.out, T15.below hbi T15.lt, B15.trans (hbi.mono S15)⟩
                  case measure => simp [intOf]; omega
            · cases e3 : nv.toList.isEmpty
              · obtain ⟨hGk, hGd, hkl⟩ := front_step HK.out HD.out (pick_is_new hov e1 e2) e3
                have hix2 := fun w => ix27 (c := cG) (b := bG) (off := 0) hkl (MG.addr (by omega)) w
                obtain ⟨y1, y2⟩ := (MG.on hb).cells k np nv hGk
                have HGd : Hid (G.drop (k + 1) = dl (((op, ov), (np, nv)) :: l2) (l.drop (i + 1))) := hGd
                clear hGk hGd
                simp only [Nat.zero_add] at hix2 y1 y2
                go_wp2_with fail
                go_quiet (fail)
                go_wp2_with fail
                go_quiet (fail)
                go_wp2_with fail
                go_roundw
                case rel => exact ⟨i + 1, k + 1, x, y, by omega, by go_num, by go_num, by omega, HGd.out, HT.out, below_drewN hb _⟩
                case measure => simp [intOf]; omega
              · have HGd : Hid (G.drop k = dl (((op, ov), (np, nv)) :: l2) (l.drop (i + 1))) := front_none HK.out HD.out (pick_is_new hov e1 e2) e3
                go_wp2_with fail
                go_quiet (fail)
                go_wp2_with fail
                go_roundw
                case rel => exact ⟨i + 1, k, x, y, by omega, by go_num, rfl, by omega, HGd.out, HT.out, below_drewN hb _⟩
                case measure => simp [intOf]; omega
        · obtain rfl : n = i := by omega
          have hd := HD.out
          rw [List.drop_eq_nil_of_le (Nat.le_of_eq hl)] at hd
          have hkG : k = G.length := by
            have := congrArg List.length hd
            simp [dl] at this
            omega
          have he : ((k : Int) == (G.length : Int)) = true := by rw [hkG]; simp
          clear hkG hd
          go_wp2
          go_ret
          exact ⟨rfl, E11.trans (hb.mono (by omega))⟩

end Go.Proofs.Qxb6628959a
