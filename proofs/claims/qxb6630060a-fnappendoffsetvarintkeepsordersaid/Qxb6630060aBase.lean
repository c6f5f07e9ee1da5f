/- Seat b6630060a: bytes in memory; zzBytes, zzB1Clone, zzB1HasPrefix, zzB1Shortlex. -/
import Derived.Test.Qxb6630060aRows
import Derived.Test.Qxb6630060aPlain
import Derived.WalkKit
import Derived.WalkSpells
import Derived.WalkLawsBesides
import Derived.Laws.CopyOwn
import Derived.Deep.QuietTactic
import Derived.BigQuiet
namespace Go.Proofs.Qxb6630060a
open Go.RowKit
set_option linter.unusedVariables false

/-- The slice at 'ao' holds the bytes l. -/
structure BytesAt (w : World) (ao : Option Addr) (l : List Int) (b off : Nat) : Prop where
  addr : 0 < l.length → ao = some ⟨b, off, none⟩
  cells : ∀ k c, l[k]? = some c → w.cell? ⟨b, off + k, none⟩ = some (.int .u8 c)
  range : ∀ c ∈ l, 0 ≤ c ∧ c ≤ 255

theorem BytesAt.lt {w : World} {ao : Option Addr} {l : List Int} {b off : Nat} (h : BytesAt w ao l b off) (hp : 0 < l.length) : b < w.heap.size :=
  World.block_lt_of_cell? _ _ (h.cells 0 l[0] (by simp [hp]))
theorem BytesAt.below {w w' : World} {ao : Option Addr} {l : List Int} {b off B : Nat} (h : BytesAt w ao l b off) (hb : Below B w w') (hB : b < B) : BytesAt w' ao l b off :=
  ⟨h.addr, fun k s hk => (hb.cell (p := ⟨b, off + k, none⟩) hB).trans (h.cells k s hk), h.range⟩
theorem BytesAt.on {w w' : World} {ao : Option Addr} {l : List Int} {b off : Nat} (h : BytesAt w ao l b off) (hb : Below w.heap.size w w') : BytesAt w' ao l b off := by
  by_cases hp : 0 < l.length
  · exact h.below hb (h.lt hp)
  · have : l = [] := List.length_eq_zero_iff.1 (by omega)
    subst this
    exact ⟨h.addr, fun k s hk => by simp at hk, h.range⟩
theorem BytesAt.block {w w' : World} {ao : Option Addr} {l : List Int} {b off : Nat} (h : BytesAt w ao l b off) (hb : w'.heap[b]? = w.heap[b]?) : BytesAt w' ao l b off :=
  ⟨h.addr, fun k s hk => (World.cell?_of_block hb).trans (h.cells k s hk), h.range⟩
theorem BytesAt.at {w : World} {ao : Option Addr} {l : List Int} {b off k : Nat} (h : BytesAt w ao l b off) (hk : k < l.length) : ∃ c, l[k]? = some c ∧ (0 ≤ c ∧ c ≤ 255) ∧ w.cell? ⟨b, off + k, none⟩ = some (.int .u8 c) :=
  ⟨l[k], by simp [hk], h.range _ (List.getElem_mem hk), h.cells k l[k] (by simp [hk])⟩
theorem BytesAt.drop {w : World} {ao ao' : Option Addr} {l : List Int} {b off : Nat} (h : BytesAt w ao l b off) (p : Nat) (ha : p < l.length → ao' = some ⟨b, off + p, none⟩) : BytesAt w ao' (l.drop p) b (off + p) := by
  refine ⟨fun hp => ha (by simp at hp; omega), fun k c hk => ?_, fun c hc => h.range c (List.mem_of_mem_drop hc)⟩
  rw [List.getElem?_drop] at hk
  rw [Nat.add_assoc]
  exact h.cells (p + k) c hk

theorem ix22 {ao : Option Addr} {n c b off k : Nat} (hk : k < n) (h : ao = some ⟨b, off, none⟩) (w : World) :
    (Instr.indexAt 22 (.slice ao n c) (.int .i64 (k : Int))).run Try.prog w = .ok (.pointer (some ⟨b, off + k, none⟩)) w := by
  subst h
  have hs : (sizeOf 5).run Try.prog w = .ok 1 w := by kernel_rfl
  rw [run_indexAt_slice (P := Try.prog) w 22 _ _ _ _ _ (by kernel_rfl), if_pos (by omega), show Try.prog.elem 22 = 5 by kernel_rfl, hs]
  simp [go_sem]

theorem info5 : (Try.prog.info? 5).map (fun i => (i.zero, i.size, i.bytes)) = some (some (.int .u8 0), 1, 1) := by kernel_rfl

def byV (l : List Int) : List Value := l.map (Value.int .u8)
theorem byV_length (l : List Int) : (byV l).length = l.length := by simp [byV]
theorem byV_one (l : List Int) : ∀ u ∈ byV l, u.oneCell' = true := by
  intro u hu
  simp only [byV, List.mem_map] at hu
  obtain ⟨s, _, rfl⟩ := hu
  rfl
theorem byV_at {l : List Int} {j : Nat} {u : Value} (h : (byV l)[j]? = some u) : ∃ s, l[j]? = some s ∧ u = .int .u8 s := by
  simp only [byV, List.getElem?_map, Option.map_eq_some_iff] at h
  obtain ⟨s, h1, h2⟩ := h
  exact ⟨s, h1, h2.symm⟩
/-- The call's own bytes. -/
def Own (w : World) (B : Nat) (v : Value) (l : List Int) : Prop := w.ownsRow B 5 1 v l.length (byV l)
theorem Own.bytes {w : World} {B : Nat} {v : Value} {l : List Int} (h : Own w B v l) (hr : ∀ c ∈ l, 0 ≤ c ∧ c ≤ 255) : ∃ ao g cap, v = .slice ao l.length cap ∧ BytesAt w ao l g 0 ∧ (ao = none ∧ l = [] ∨ ao = some ⟨g, 0, none⟩ ∧ B ≤ g ∧ g < w.heap.size) ∧ l.length ≤ cap ∧ cap ≤ maxLen := by
  rcases h.2 with ⟨rfl, h0⟩ | ⟨g, cap, cur, rfl, hg, hh, hnc, hcm, r⟩
  · have : l = [] := List.length_eq_zero_iff.1 h0
    subst this
    exact ⟨none, 0, 0, rfl, ⟨fun hp => by simp at hp, fun k p hk => by simp at hk, hr⟩, Or.inl ⟨rfl, rfl⟩, Nat.le_refl _, Nat.zero_le _⟩
  · refine ⟨_, g, cap, rfl, ⟨fun _ => rfl, fun k p hk => ?_, hr⟩, Or.inr ⟨rfl, hg, (Array.getElem?_eq_some_iff.1 hh).1⟩, hnc, hcm⟩
    have hkn := (List.getElem?_eq_some_iff.1 hk).1
    have h' : w.ownsRow B 5 1 (.slice (some ⟨g, 0, none⟩) l.length cap) l.length (byV l) := h
    rw [Nat.zero_add, h'.cellAt k (by omega)]
    simp [byV, hk]

/-! ### zzBytes -/
def AnyBool (e : Ending) : Prop := ∃ r : Bool, e = .returned (.bool r)
theorem anyBool (r : Bool) : AnyBool (.returned (.bool r)) := ⟨r, rfl⟩
set_option maxHeartbeats 400000 in
theorem zzBytesD_any (ao : Option Addr) (n c : Nat) (x : Int) (w : World) : Calls Try.prog 5 #[.slice ao n c, .int .i64 x] w fun e w' => AnyBool e ∧ w' = w := by
  go_enter Try.func5, Try.ntmps5
  go_wp2
  all_goals (go_ret; exact ⟨anyBool _, rfl⟩)
set_option maxHeartbeats 400000 in
theorem zzBytesK_any (ao : Option Addr) (n c : Nat) (x y : Int) (w : World) : Calls Try.prog 9 #[.slice ao n c, .int .i64 x, .int .i64 y] w fun e w' => AnyBool e ∧ w' = w := by
  go_enter Try.func9, Try.ntmps9
  go_wp2
  all_goals (go_ret; exact ⟨anyBool _, rfl⟩)

/-! ### zzB1Clone -/
theorem make22 (n : Nat) (hn : n ≤ 1048576) (w : World) :
    (Instr.makeSlice 22 (.int .i64 (n : Int)) (.int .i64 (n : Int))).run Try.prog w = .ok (.slice (some ⟨w.heap.size, 0, none⟩) n n) (w.alloc (.cells (madeCells #[.int .u8 0] n) 5)) := by
  obtain ⟨i, hi, h1, h2, h3⟩ := info_parts info5
  have := run_make (P := Try.prog) w 22 5 i _ Try.underlying22 hi h1 .i64 .i64 n n (by omega) (Int.le_refl _) (by rw [h3]; omega) (by omega)
  rw [h2, Nat.mul_one] at this
  exact this

set_option maxHeartbeats 1000000 in
theorem clone_some (ao : Option Addr) (n c : Nat) (l : List Int) (b off : Nat) (w : World) (hl : l.length = n) (h : BytesAt w ao l b off) (hn : n ≤ 1048576) (hne : ao.isNone = false) :
    Calls Try.prog 6 #[.slice ao n c] w fun e w' => e = .returned (.slice (some ⟨w.heap.size, 0, none⟩) n n) ∧ Own w' w.heap.size (.slice (some ⟨w.heap.size, 0, none⟩) n n) l ∧ Below w.heap.size w w' := by
  have hmk := make22 n hn
  have hnil : ∀ (w : World) (a : Option Addr) (n c n' c' : Nat), (binOp .eql 22 (.slice a n c) (.slice none n' c')).run Try.prog w = .ok (.bool a.isNone) w := fun w a n c n' c' => Lib.run_eql_slice_nil w _ _ a n c n' c' Try.underlying22
  have hB : Below w.heap.size w (w.alloc (.cells (madeCells #[.int .u8 0] n) 5)) := (Below.refl _ _).alloc (Nat.le_refl _) _
  have hblk : (w.alloc (.cells (madeCells #[.int .u8 0] n) 5)).heap[w.heap.size]? = some (.cells (List.replicate n (Value.int .u8 0)).toArray 5 (0, 0)) := by
    rw [show (List.replicate n (Value.int .u8 0)).toArray = madeCells #[.int .u8 0] n by rw [← toList_madeCells_one]]
    show (w.heap.push _)[w.heap.size]? = _
    simp
  have hpos : 0 < (byV l).length → (some (⟨w.heap.size, 0, none⟩ : Addr)) = some ⟨w.heap.size, 0, none⟩ ∧ ∃ ad, ao = some ad ∧ ∀ j v, (byV l)[j]? = some v → (w.alloc (.cells (madeCells #[.int .u8 0] n) 5)).cell? (ad.add j) = some v := by
    intro hp
    rw [byV_length] at hp
    refine ⟨rfl, _, h.addr hp, fun j v hj => ?_⟩
    obtain ⟨s, hs, rfl⟩ := byV_at hj
    rw [Addr.add_lit]
    exact (h.on hB).cells j s hs
  have HP : Hid _ := hpos
  have HBk : Hid _ := hblk
  clear hpos hblk
  go_enter Try.func6, Try.ntmps6
  go_wp2_with (refine wpList_copy_splice rfl (.tmp 9) (.tmp 10) 22 22 rfl 5 Try.underlying22 (by kernel_rfl) _ _ n n n c rfl rfl w.heap.size 0 (List.replicate n (Value.int .u8 0)) 5 HBk.out (byV l) (by rw [byV_length, hl]; exact (Nat.min_self n).symm) HP.out (by rw [byV_length]; simp; omega) (byV_one _) w.heap.size w hB (Nat.le_refl _) ?_; intro w1 hw1 hb1)
  go_ret
  refine ⟨rfl, ?_, hb1⟩
  subst hl
  have hsp : splice (List.replicate l.length (Value.int .u8 0)) 0 (byV l) = byV l := by
    have : (byV l).length = l.length := byV_length l
    simp [splice, this]
  have hh : w1.heap[w.heap.size]? = some (.cells (byV l).toArray 5 (0, 0)) := by
    have := hw1.out
    rw [hsp] at this
    exact this
  exact ⟨by rw [byV_length, Nat.mul_one], Or.inr ⟨_, _, _, rfl, Nat.le_refl _, hh, Nat.le_refl _, by unfold maxLen; omega, by simp [byV], List.take_of_length_le (by rw [byV_length, Nat.mul_one]; exact Nat.le_refl _)⟩⟩

set_option maxHeartbeats 400000 in
theorem clone_nil (w : World) : Calls Try.prog 6 #[.slice none 0 0] w fun e w' => e = .returned (.slice none 0 0) ∧ w' = w := by
  have hnil : ∀ (w : World) (a : Option Addr) (n c n' c' : Nat), (binOp .eql 22 (.slice a n c) (.slice none n' c')).run Try.prog w = .ok (.bool a.isNone) w := fun w a n c n' c' => Lib.run_eql_slice_nil w _ _ a n c n' c' Try.underlying22
  go_enter Try.func6, Try.ntmps6
  go_wp2
  go_ret
  exact ⟨rfl, rfl⟩

theorem clone_any (ao : Option Addr) (n c : Nat) (l : List Int) (b off : Nat) (w : World) (hl : l.length = n) (h : BytesAt w ao l b off) (hn : n ≤ 1048576) (h0 : ao = none → n = 0 ∧ c = 0) :
    Calls Try.prog 6 #[.slice ao n c] w fun e w' => ∃ ao' b' c', e = .returned (.slice ao' n c') ∧ Own w' w.heap.size (.slice ao' n c') l ∧ BytesAt w' ao' l b' 0 ∧ (ao' = none → n = 0 ∧ c' = 0) ∧ (ao' = some ⟨b', 0, none⟩ ∧ w.heap.size ≤ b' ∧ b' < w'.heap.size ∨ ao' = none) ∧ Below w.heap.size w w' := by
  cases ao with
  | none =>
    obtain ⟨rfl, rfl⟩ := h0 rfl
    refine (clone_nil w).mono fun e w' ⟨he, hw⟩ => ⟨none, 0, 0, he, ?_, ?_, fun _ => ⟨rfl, rfl⟩, Or.inr rfl, by rw [hw]; exact Below.refl _ _⟩
    · obtain rfl : l = [] := List.length_eq_zero_iff.1 hl
      exact World.ownsRow_nil _ _ _ _
    · obtain rfl : l = [] := List.length_eq_zero_iff.1 hl
      exact ⟨fun hp => by simp at hp, fun k p hk => by simp at hk, h.range⟩
  | some a =>
    refine (clone_some (some a) n c l b off w hl h hn rfl).mono fun e w' ⟨he, ho, hb⟩ => ⟨_, w.heap.size, _, he, ho, ?_, (fun h => by cases h), Or.inl ⟨rfl, Nat.le_refl _, ?_⟩, hb⟩
    · obtain ⟨ao, g, cap, e1, e2, _⟩ := ho.bytes h.range
      simp only [Value.slice.injEq] at e1
      obtain ⟨rfl, _, rfl⟩ := e1
      by_cases hp : 0 < l.length
      · have := e2.addr hp
        simp only [Option.some.injEq, Addr.mk.injEq, and_true] at this
        rw [← this] at e2
        exact e2
      · obtain rfl : l = [] := List.length_eq_zero_iff.1 (by omega)
        exact ⟨fun hp => by simp at hp, fun k p hk => by simp at hk, h.range⟩
    · rcases ho.2 with ⟨h', _⟩ | ⟨g, cap, cur, h', _, hh, _⟩
      · cases h'
      · simp only [Value.slice.injEq, Option.some.injEq, Addr.mk.injEq, and_true] at h'
        rw [h'.1]
        exact (Array.getElem?_eq_some_iff.1 hh).1

/-! ### zzB1HasPrefix -/
set_option maxHeartbeats 1000000 in
theorem hasPrefix_any (ao ao2 : Option Addr) (n c n2 c2 b off b2 off2 : Nat) (l l2 : List Int) (w : World) (hl : l.length = n) (hl2 : l2.length = n2) (h : BytesAt w ao l b off) (h2 : BytesAt w ao2 l2 b2 off2) (hn : n ≤ 2097152) (hpre : l.take n2 = l2) :
    Calls Try.prog 8 #[.slice ao n c, .slice ao2 n2 c2] w fun e w' => e = .returned (.bool true) ∧ ∃ m, w' = w.drewN m := by
  have hle : n2 ≤ n := by have := congrArg List.length hpre; simp at this; omega
  have HP : Hid (l.take n2 = l2) := hpre
  clear hpre
  go_enter Try.func8, Try.ntmps8
  go_wp2
  go_loopw [5] (fun i wr => ∃ (k m : Nat), k ≤ n2 ∧ i = .int .i64 k ∧ wr = w.drewN m) (fun i _ => n2 - (intOf i).toNat)
  case atStart => exact ⟨0, 0, Nat.zero_le _, rfl, rfl⟩
  case round =>
    obtain ⟨k, m, hk, rfl, rfl⟩ := hrel
    by_cases hlt : k < n2
    · obtain ⟨x, hx, hxr, hxc⟩ := h.at (k := k) (by omega)
      obtain ⟨y, hy, hyr, hyc⟩ := h2.at (k := k) (by omega)
      have hxy : x = y := by
        rw [← HP.out, List.getElem?_take, if_pos hlt, hx] at hy
        exact Option.some.inj hy
      subst hxy
      have hix := fun w => ix22 (c := c) (n := n) (b := b) (off := off) (k := k) (by omega) (h.addr (by omega)) w
      have hix2 := fun w => ix22 (c := c2) (b := b2) (off := off2) hlt (h2.addr (by omega)) w
      clear hx hy
      go_wp2_with fail
      go_quiet (fail)
      go_wp2_with fail
      go_roundw
      case rel => exact ⟨k + 1, _, by omega, by go_num, rfl⟩
      case measure => simp [intOf]; omega
    · go_wp2
      go_ret
      exact ⟨rfl, _, rfl⟩

/-! ### zzB1Shortlex -/
theorem ret_int {a b : Int} (h : a = b) : Ending.returned (.int .i64 a) = .returned (.int .i64 b) := by rw [h]
theorem drewN2 (w : World) (a b : Nat) : (w.drewN a).drewN b = w.drewN (a + b) := World.drewN_drewN w a b
theorem drewN3 (w : World) (a b c : Nat) : ((w.drewN a).drewN b).drewN c = w.drewN (a + b + c) := by rw [World.drewN_drewN, World.drewN_drewN, Nat.add_assoc]
theorem lex_drop {x y : List Int} {k : Nat} {a b : Int} (hx : x[k]? = some a) (hy : y[k]? = some b) : lex (x.drop k) (y.drop k) = if a < b then -1 else if b < a then 1 else lex (x.drop (k + 1)) (y.drop (k + 1)) := by
  obtain ⟨h1, rfl⟩ := List.getElem?_eq_some_iff.1 hx
  obtain ⟨h2, rfl⟩ := List.getElem?_eq_some_iff.1 hy
  rw [List.drop_eq_getElem_cons h1, List.drop_eq_getElem_cons h2, lex]
set_option maxHeartbeats 1000000 in
theorem shortlex_any (ao ao2 : Option Addr) (n c n2 c2 b off b2 off2 : Nat) (l l2 : List Int) (w : World) (hl : l.length = n) (hl2 : l2.length = n2) (h : BytesAt w ao l b off) (h2 : BytesAt w ao2 l2 b2 off2) (hn : n ≤ 2097152) :
    Calls Try.prog 10 #[.slice ao n c, .slice ao2 n2 c2] w fun e w' => e = .returned (.int .i64 (sl l l2)) ∧ ∃ m, w' = w.drewN m := by
  by_cases h1 : n < n2
  · have HS : Hid (sl l l2 = -1) := by show sl l l2 = -1; rw [sl, if_pos (by omega)]
    go_enter Try.func10, Try.ntmps10
    go_wp2
    go_ret
    exact ⟨ret_int HS.out.symm, 0, rfl⟩
  by_cases h3 : n2 < n
  · have HS : Hid (sl l l2 = 1) := by show sl l l2 = 1; rw [sl, if_neg (by omega), if_pos (by omega)]
    go_enter Try.func10, Try.ntmps10
    go_wp2
    go_ret
    exact ⟨ret_int HS.out.symm, 0, rfl⟩
  obtain rfl : n = n2 := by omega
  have HS : Hid (sl l l2 = lex l l2) := by show sl l l2 = lex l l2; rw [sl, if_neg (by omega), if_neg (by omega)]
  go_enter Try.func10, Try.ntmps10
  go_wp2
  go_loopw [5] (fun i wr => ∃ (k m : Nat), k ≤ n ∧ i = .int .i64 k ∧ lex (l.drop k) (l2.drop k) = lex l l2 ∧ wr = w.drewN m) (fun i _ => n - (intOf i).toNat)
  case atStart => exact ⟨0, 0, Nat.zero_le _, rfl, rfl, rfl⟩
  case round =>
    obtain ⟨k, m, hk, rfl, hd, rfl⟩ := hrel
    have HD : Hid (lex (l.drop k) (l2.drop k) = lex l l2) := hd
    clear hd
    by_cases hlt : k < n
    · obtain ⟨x, hx, hxr, hxc⟩ := h.at (k := k) (by omega)
      obtain ⟨y, hy, hyr, hyc⟩ := h2.at (k := k) (by omega)
      have HL : Hid (lex (l.drop k) (l2.drop k) = if x < y then -1 else if y < x then 1 else lex (l.drop (k + 1)) (l2.drop (k + 1))) := lex_drop hx hy
      have hix := fun w => ix22 (c := c) (n := n) (b := b) (off := off) (k := k) (by omega) (h.addr (by omega)) w
      have hix2 := fun w => ix22 (c := c2) (b := b2) (off := off2) hlt (h2.addr (by omega)) w
      clear hx hy
      by_cases hxy : x < y
      · have HR : Hid (sl l l2 = -1) := by
          show sl l l2 = -1
          rw [HS.out, ← HD.out, HL.out, if_pos hxy]
        go_wp2_with fail
        go_quiet (fail)
        go_wp2_with fail
        go_ret
        exact ⟨ret_int HR.out.symm, _, drewN2 w m nq⟩
      · by_cases hyx : y < x
        · have HR : Hid (sl l l2 = 1) := by
            show sl l l2 = 1
            rw [HS.out, ← HD.out, HL.out, if_neg hxy, if_pos hyx]
          go_wp2_with fail
          go_quiet (fail)
          go_wp2_with fail
          go_quiet (fail)
          go_wp2_with fail
          go_ret
          exact ⟨ret_int HR.out.symm, _, drewN3 w m _ _⟩
        · have HR : Hid (lex (l.drop (k + 1)) (l2.drop (k + 1)) = lex l l2) := by
            show lex (l.drop (k + 1)) (l2.drop (k + 1)) = lex l l2
            rw [← HD.out, HL.out, if_neg hxy, if_neg hyx]
          go_wp2_with fail
          go_quiet (fail)
          go_wp2_with fail
          go_quiet (fail)
          go_wp2_with fail
          go_roundw
          case rel => exact ⟨k + 1, _, by omega, by go_num, HR.out, rfl⟩
          case measure => simp [intOf]; omega
    · have HR : Hid (sl l l2 = 0) := by
        show sl l l2 = 0
        rw [HS.out, ← HD.out, List.drop_eq_nil_of_le (by omega), List.drop_eq_nil_of_le (by omega), lex]
        intro a x b y h
        cases h
      go_wp2
      go_ret
      exact ⟨ret_int HR.out.symm, _, rfl⟩

end Go.Proofs.Qxb6630060a
