/- Seat b6628959a: toRequire: a fresh copy of the modules, cell by cell. -/
import Derived.Test.Qxb6628959aBytes
import Derived.Deep.OwnRows
namespace Go.Proofs.Qxb6628959a
open Go.RowKit Go.Deep

/-- The empty string's value. -/
abbrev es : Value := .string ⟨#[]⟩

theorem info38 : (Try.prog.info? 38).map (fun i => (i.zero, i.size, i.bytes)) = some (some (.agg #[es, es]), 2, 32) := by kernel_rfl
theorem info42 : (Try.prog.info? 42).map (fun i => (i.zero, i.size, i.bytes)) = some (some (.agg #[es, es, es, es]), 4, 64) := by kernel_rfl

theorem made2 (w : World) (s : Value) (N : Nat) (t : TypeId) : (w.alloc (.cells (madeCells #[s, s] N) t)).rowIs w.heap.size t N (fun _ => s) :=
  ⟨_, blk_alloc_new _ _, size_madeCells _ _, fun i hi => by
    have : i % 2 = 0 ∨ i % 2 = 1 := by omega
    rcases this with h | h <;> simp [madeCells, hi, h]⟩
theorem made4 (w : World) (s : Value) (N : Nat) (t : TypeId) : (w.alloc (.cells (madeCells #[s, s, s, s] N) t)).rowIs w.heap.size t N (fun _ => s) :=
  ⟨_, blk_alloc_new _ _, size_madeCells _ _, fun i hi => by
    have : i % 4 = 0 ∨ i % 4 = 1 ∨ i % 4 = 2 ∨ i % 4 = 3 := by omega
    rcases this with h | h | h | h <;> simp [madeCells, hi, h]⟩

theorem make27 (n : Nat) (hn : n ≤ 4097) (w : World) :
    (Instr.makeSlice 27 (.int .i64 (n : Int)) (.int .i64 (n : Int))).run Try.prog w = .ok (.slice (some ⟨w.heap.size, 0, none⟩) n n) (w.alloc (.cells (madeCells #[es, es] (n * 2)) 38)) := by
  obtain ⟨i, hi, h1, h2, h3⟩ := info_parts info38
  have := run_make (P := Try.prog) w 27 38 i _ Try.underlying27 hi h1 .i64 .i64 n n (by omega) (Int.le_refl _) (by rw [h3]; omega) (by omega)
  rw [h2] at this
  exact this
theorem make29 (n : Nat) (hn : n ≤ 4097) (w : World) :
    (Instr.makeSlice 29 (.int .i64 (n : Int)) (.int .i64 (n : Int))).run Try.prog w = .ok (.slice (some ⟨w.heap.size, 0, none⟩) n n) (w.alloc (.cells (madeCells #[es, es, es, es] (n * 4)) 42)) := by
  obtain ⟨i, hi, h1, h2, h3⟩ := info_parts info42
  have := run_make (P := Try.prog) w 29 42 i _ Try.underlying29 hi h1 .i64 .i64 n n (by omega) (Int.le_refl _) (by rw [h3]; omega) (by omega)
  rw [h2] at this
  exact this

/-- A row of strings in the call's own block B. -/
def Strs (w : World) (B : Nat) (e : TypeId) (N : Nat) (f : Nat → ByteArray) : Prop := w.rowIs B e N (fun i => .string (f i))
theorem Strs.cell {w : World} {B e N : Nat} {f : Nat → ByteArray} (h : Strs w B e N f) {i : Nat} (hi : i < N) : w.cell? ⟨B, i, none⟩ = some (.string (f i)) := World.rowIs.cell h hi
theorem Strs.frozen {w : World} {B e N : Nat} {f : Nat → ByteArray} (h : Strs w B e N f) (i : Nat) : w.frozen? ⟨B, i, none⟩ = false := World.rowIs.frozen h i
theorem Strs.lt {w : World} {B e N : Nat} {f : Nat → ByteArray} (h : Strs w B e N f) : B < w.heap.size := World.rowIs.lt h
theorem Strs.below {w w' : World} {B e N K : Nat} {f : Nat → ByteArray} (h : Strs w B e N f) (hb : Below K w w') (hK : B < K) : Strs w' B e N f := World.rowIs.of_block h (hb.block B hK)
theorem Strs.on {w w' : World} {B e N : Nat} {f : Nat → ByteArray} (h : Strs w B e N f) (hb : Below w.heap.size w w') : Strs w' B e N f := h.below hb h.lt
theorem Strs.set {w : World} {B e N : Nat} {f : Nat → ByteArray} (h : Strs w B e N f) (i : Nat) (s : ByteArray) : Strs (w.setCell ⟨B, i, none⟩ (.string s)) B e N (fun j => if j = i then s else f j) :=
  (World.rowIs.set h i (.string s)).congr (fun j _ => by by_cases e : j = i <;> simp [e])
theorem Strs.setOther {w : World} {B e N : Nat} {f : Nat → ByteArray} (h : Strs w B e N f) {a : Addr} (ha : B ≠ a.block) (v : Value) : Strs (w.setCell a v) B e N f := World.rowIs.setOther h ha v

/-- The first k modules of l stand in the row. -/
def Upto (l : List M) (k : Nat) (f : Nat → ByteArray) : Prop := ∀ j p v, j < k → l[j]? = some (p, v) → f (j * 2) = p ∧ f (j * 2 + 1) = v
theorem Upto.succ {l : List M} {k : Nat} {f : Nat → ByteArray} (h : Upto l k f) {p v : ByteArray} (hk : l[k]? = some (p, v)) :
    Upto l (k + 1) (fun j => if j = k * 2 + 1 then v else if j = k * 2 then p else f j) := by
  intro j q u hj hq
  by_cases e : j = k
  · subst e
    rw [hk] at hq
    simp at hq
    obtain ⟨rfl, rfl⟩ := hq
    simp
  · have := h j q u (by omega) hq
    simp only []
    rw [if_neg (by omega), if_neg (by omega), if_neg (by omega), if_neg (by omega)]
    exact this
theorem mods_of_strs {w : World} {B e n : Nat} {l : List M} {f : Nat → ByteArray} (h : Strs w B e (n * 2) f) (hl : l.length = n) (hu : Upto l n f) : ModsAt w (some ⟨B, 0, none⟩) l B 0 := by
  refine ⟨fun _ => rfl, fun k p v hk => ?_⟩
  have hkn : k < n := by
    have := (List.getElem?_eq_some_iff.1 hk).1
    omega
  obtain ⟨e1, e2⟩ := hu k p v hkn hk
  rw [Nat.zero_add]
  exact ⟨by rw [h.cell (by omega), e1], by rw [h.cell (by omega), e2]⟩

set_option maxHeartbeats 1000000 in
theorem toRequire_some (ao : Option Addr) (n c : Nat) (l : List M) (b off : Nat) (w : World) (hl : l.length = n) (h : ModsAt w ao l b off) (hn : n ≤ 4096) (hne : ao.isNone = false) :
    Calls Try.prog 7 #[.slice ao n c] w fun e w' => e = .returned (.slice (some ⟨w.heap.size, 0, none⟩) n n) ∧ ModsAt w' (some ⟨w.heap.size, 0, none⟩) l w.heap.size 0 ∧ Below w.heap.size w w' := by
  have hmk := make27 n (by omega)
  have hnil : ∀ (w : World) (a : Option Addr) (n c n' c' : Nat), (binOp .eql 22 (.slice a n c) (.slice none n' c')).run Try.prog w = .ok (.bool a.isNone) w := fun w a n c n' c' => Lib.run_eql_slice_nil w _ _ a n c n' c' Try.underlying22
  go_enter Try.func7, Try.ntmps7
  go_wp2
  go_loopw [4] (fun i wr => ∃ (k : Nat) (f : Nat → ByteArray), k ≤ n ∧ i = .int .i64 k ∧ Strs wr w.heap.size 38 (n * 2) f ∧ Upto l k f ∧ Below w.heap.size w wr) (fun i _ => n - (intOf i).toNat)
  case atStart => exact ⟨0, _, Nat.zero_le _, rfl, made2 _ _ _ _, fun j _ _ hj => by omega, (Below.refl _ _).alloc (Nat.le_refl _) _⟩
  case round =>
    obtain ⟨k, f, hk, rfl, hs, hu, hb⟩ := hrel
    by_cases hlt : k < n
    · obtain ⟨p, v, hkv⟩ := at_mods (l := l) (k := k) (by omega)
      have hix := fun w => ix22 (c := c) (b := b) (off := off) hlt (h.addr (by omega)) w
      obtain ⟨hc1, hc2⟩ := (h.on hb).cells k p v hkv
      have HS : Hid (Strs wr w.heap.size 38 (n * 2) f) := hs
      have HU : Hid (Upto l k f) := hu
      have HK : Hid (l[k]? = some (p, v)) := hkv
      clear hs hu hkv h
      go_wp2_with (go_at_call 13; refine (toModule_any _ _ _).mono ?_; rintro e w1 ⟨rfl, hb1⟩; have hs1 := HS.out.on hb1; have g1 := hs1.cell (i := k * 2) (by omega); have g2 := hs1.cell (i := k * 2 + 1) (by omega); have f1 := hs1.frozen (k * 2); have f2 := hs1.frozen (k * 2 + 1); clear hs1)
      go_roundw
      case rel => exact ⟨k + 1, _, by omega, by go_num, ((HS.out.on hb1).set _ _).set _ _, HU.out.succ HK.out, ((hb.trans (hb1.mono hb.size)).setCell (Nat.le_refl _) _).setCell (Nat.le_refl _) _⟩
      case measure => simp [intOf]; omega
    · go_wp2
      go_ret
      obtain rfl : k = n := by omega
      exact ⟨rfl, mods_of_strs hs hl hu, hb⟩

set_option maxHeartbeats 1000000 in
theorem toRequire_nil (w : World) :
    Calls Try.prog 7 #[.slice none 0 0] w fun e w' => e = .returned (.slice none 0 0) ∧ w' = w := by
  have hnil : ∀ (w : World) (a : Option Addr) (n c n' c' : Nat), (binOp .eql 22 (.slice a n c) (.slice none n' c')).run Try.prog w = .ok (.bool a.isNone) w := fun w a n c n' c' => Lib.run_eql_slice_nil w _ _ a n c n' c' Try.underlying22
  go_enter Try.func7, Try.ntmps7
  go_wp2
  go_ret
  exact ⟨rfl, rfl⟩

/-- toRequire: nil stays nil; else a new row of the same modules. -/
theorem toRequire_any (ao : Option Addr) (n c : Nat) (l : List M) (b off : Nat) (w : World) (hl : l.length = n) (h : ModsAt w ao l b off) (hn : n ≤ 4096) (h0 : ao = none → n = 0 ∧ c = 0) :
    Calls Try.prog 7 #[.slice ao n c] w fun e w' => ∃ ao' b', e = .returned (.slice ao' n n) ∧ ModsAt w' ao' l b' 0 ∧ Below w.heap.size w w' := by
  cases ao with
  | none =>
    obtain ⟨rfl, rfl⟩ := h0 rfl
    refine (toRequire_nil w).mono fun e w' ⟨he, hw⟩ => ⟨none, 0, he, ?_, by rw [hw]; exact Below.refl _ _⟩
    refine ⟨fun hp => by omega, fun k p v hk => ?_⟩
    obtain rfl : l = [] := List.length_eq_zero_iff.1 hl
    simp at hk
  | some a => exact (toRequire_some (some a) n c l b off w hl h hn rfl).mono fun e w' ⟨he, hm, hb⟩ => ⟨_, _, he, hm, hb⟩

end Go.Proofs.Qxb6628959a
