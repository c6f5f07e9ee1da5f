/- Seat b6630088a: bytes in memory; zzBytes, cloneBytesB1, isJSONSpaceB1, the Parser's three calls, Peek. -/
import Derived.Test.Qxb6630088aRows
import Derived.Test.Qxb6630088aPlain
import Derived.WalkKit
import Derived.WalkSpells
import Derived.WalkLawsBesides
import Derived.Deep.OwnRows
import Derived.Deep.LoopGhost
import Derived.Deep.QuietTactic
import Derived.BigQuiet
namespace Go.Proofs.Qxb6630088a
open Go.RowKit
set_option linter.unusedVariables false

/-- The slice at 'ao' holds the bytes l. -/
structure BytesAt (w : World) (ao : Option Addr) (l : List Int) (b off : Nat) : Prop where
  addr : 0 < l.length → ao = some ⟨b, off, none⟩
  cells : ∀ k c, l[k]? = some c → w.cell? ⟨b, off + k, none⟩ = some (.int .u8 c)
  range : ∀ c ∈ l, 0 ≤ c ∧ c ≤ 255

theorem BytesAt.lt {w : World} {ao : Option Addr} {l : List Int} {b off : Nat} (h : BytesAt w ao l b off) (hp : 0 < l.length) : b < w.heap.size :=
  World.block_lt_of_cell? _ _ (h.cells 0 l[0] (by simp [hp]))
theorem BytesAt.below {w w' : World} {ao : Option Addr} {l : List Int} {b off B : Nat} (h : BytesAt w ao l b off) (hb : Below B w w') (hB : b < B) : BytesAt w' ao l b off :=
  ⟨h.addr, fun k s hk => (hb.cell (p := ⟨b, off + k, none⟩) hB).trans (h.cells k s hk), h.range⟩
theorem BytesAt.on {w w' : World} {ao : Option Addr} {l : List Int} {b off : Nat} (h : BytesAt w ao l b off) (hb : Below w.heap.size w w') : BytesAt w' ao l b off := by
  by_cases hp : 0 < l.length
  · exact h.below hb (h.lt hp)
  · have : l = [] := List.length_eq_zero_iff.1 (by omega)
    subst this
    exact ⟨h.addr, fun k s hk => by simp at hk, h.range⟩
theorem BytesAt.block {w w' : World} {ao : Option Addr} {l : List Int} {b off : Nat} (h : BytesAt w ao l b off) (hb : w'.heap[b]? = w.heap[b]?) : BytesAt w' ao l b off :=
  ⟨h.addr, fun k s hk => (World.cell?_of_block hb).trans (h.cells k s hk), h.range⟩
theorem BytesAt.at {w : World} {ao : Option Addr} {l : List Int} {b off k : Nat} (h : BytesAt w ao l b off) (hk : k < l.length) : ∃ c, l[k]? = some c ∧ (0 ≤ c ∧ c ≤ 255) ∧ w.cell? ⟨b, off + k, none⟩ = some (.int .u8 c) :=
  ⟨l[k], by simp [hk], h.range _ (List.getElem_mem hk), h.cells k l[k] (by simp [hk])⟩
theorem BytesAt.drop {w : World} {ao ao' : Option Addr} {l : List Int} {b off : Nat} (h : BytesAt w ao l b off) (p : Nat) (ha : p < l.length → ao' = some ⟨b, off + p, none⟩) : BytesAt w ao' (l.drop p) b (off + p) := by
  refine ⟨fun hp => ha (by simp at hp; omega), fun k c hk => ?_, fun c hc => h.range c (List.mem_of_mem_drop hc)⟩
  rw [List.getElem?_drop] at hk
  rw [Nat.add_assoc]
  exact h.cells (p + k) c hk

theorem ix22 {ao : Option Addr} {n c b off k : Nat} (hk : k < n) (h : ao = some ⟨b, off, none⟩) (w : World) :
    (Instr.indexAt 22 (.slice ao n c) (.int .i64 (k : Int))).run Try.prog w = .ok (.pointer (some ⟨b, off + k, none⟩)) w := by
  subst h
  have hs : (sizeOf 5).run Try.prog w = .ok 1 w := by kernel_rfl
  rw [run_indexAt_slice (P := Try.prog) w 22 _ _ _ _ _ (by kernel_rfl), if_pos (by omega), show Try.prog.elem 22 = 5 by kernel_rfl, hs]
  simp [go_sem]

theorem info5 : (Try.prog.info? 5).map (fun i => (i.zero, i.size, i.bytes)) = some (some (.int .u8 0), 1, 1) := by kernel_rfl

/-! ### zzBytes -/
def AnyBool (e : Ending) : Prop := ∃ r : Bool, e = .returned (.bool r)
theorem anyBool (r : Bool) : AnyBool (.returned (.bool r)) := ⟨r, rfl⟩
set_option maxHeartbeats 400000 in
theorem zzBytesA_any (ao : Option Addr) (n c : Nat) (x y : Int) (w : World) : Calls Try.prog 5 #[.slice ao n c, .int .i64 x, .int .i64 y] w fun e w' => AnyBool e ∧ w' = w := by
  go_enter Try.func5, Try.ntmps5
  go_wp2
  all_goals (go_ret; exact ⟨anyBool _, rfl⟩)
set_option maxHeartbeats 400000 in
theorem zzBytesS_any (ao : Option Addr) (n c : Nat) (x : Int) (w : World) : Calls Try.prog 10 #[.slice ao n c, .int .i64 x] w fun e w' => AnyBool e ∧ w' = w := by
  go_enter Try.func10, Try.ntmps10
  go_wp2
  all_goals (go_ret; exact ⟨anyBool _, rfl⟩)

/-! ### cloneBytesB1 -/
theorem make22 (n : Nat) (hn : n ≤ 1048576) (w : World) :
    (Instr.makeSlice 22 (.int .i64 (n : Int)) (.int .i64 (n : Int))).run Try.prog w = .ok (.slice (some ⟨w.heap.size, 0, none⟩) n n) (w.alloc (.cells (madeCells #[.int .u8 0] n) 5)) := by
  obtain ⟨i, hi, h1, h2, h3⟩ := info_parts info5
  have := run_make (P := Try.prog) w 22 5 i _ Try.underlying22 hi h1 .i64 .i64 n n (by omega) (Int.le_refl _) (by rw [h3]; omega) (by omega)
  rw [h2, Nat.mul_one] at this
  exact this

/-- A row of bytes in the call's own block. -/
def Buf (w : World) (B n : Nat) (f : Nat → Int) : Prop := w.rowIs B 5 n (fun j => .int .u8 (f j))
theorem Buf.cell {w : World} {B n : Nat} {f : Nat → Int} (h : Buf w B n f) {i : Nat} (hi : i < n) : w.cell? ⟨B, i, none⟩ = some (.int .u8 (f i)) := World.rowIs.cell h hi
theorem Buf.frozen {w : World} {B n : Nat} {f : Nat → Int} (h : Buf w B n f) (i : Nat) : w.frozen? ⟨B, i, none⟩ = false := World.rowIs.frozen h i
theorem Buf.lt {w : World} {B n : Nat} {f : Nat → Int} (h : Buf w B n f) : B < w.heap.size := World.rowIs.lt h
theorem Buf.set {w : World} {B n : Nat} {f : Nat → Int} (h : Buf w B n f) (i : Nat) (c : Int) : Buf (w.setCell ⟨B, i, none⟩ (.int .u8 c)) B n (fun j => if j = i then c else f j) :=
  (World.rowIs.set h i (.int .u8 c)).congr (fun j _ => by by_cases e : j = i <;> simp [e])
def Upto (l : List Int) (k : Nat) (f : Nat → Int) : Prop := ∀ j c, j < k → l[j]? = some c → f j = c
theorem Upto.succ {l : List Int} {k : Nat} {f : Nat → Int} (h : Upto l k f) {c : Int} (hk : l[k]? = some c) : Upto l (k + 1) (fun j => if j = k then c else f j) := by
  intro j d hj hd
  by_cases e : j = k
  · subst e
    rw [hk] at hd
    simpa using hd
  · show (if j = k then c else f j) = d
    rw [if_neg e]
    exact h j d (by omega) hd
theorem bytes_of_buf {w : World} {B n : Nat} {l : List Int} {f : Nat → Int} (h : Buf w B n f) (hl : l.length = n) (hu : Upto l n f) (hr : ∀ c ∈ l, 0 ≤ c ∧ c ≤ 255) : BytesAt w (some ⟨B, 0, none⟩) l B 0 := by
  refine ⟨fun _ => rfl, fun k c hk => ?_, hr⟩
  have := (List.getElem?_eq_some_iff.1 hk).1
  rw [Nat.zero_add, h.cell (by omega), hu k c (by omega) hk]

set_option maxHeartbeats 1000000 in
theorem clone_some (ao : Option Addr) (n c : Nat) (l : List Int) (b off : Nat) (w : World) (hl : l.length = n) (h : BytesAt w ao l b off) (hn : n ≤ 1048576) (hne : ao.isNone = false) :
    Calls Try.prog 6 #[.slice ao n c] w fun e w' => e = .returned (.slice (some ⟨w.heap.size, 0, none⟩) n n) ∧ BytesAt w' (some ⟨w.heap.size, 0, none⟩) l w.heap.size 0 ∧ w.heap.size < w'.heap.size ∧ Below w.heap.size w w' := by
  have hmk := make22 n hn
  have hnil : ∀ (w : World) (a : Option Addr) (n c n' c' : Nat), (binOp .eql 22 (.slice a n c) (.slice none n' c')).run Try.prog w = .ok (.bool a.isNone) w := fun w a n c n' c' => Lib.run_eql_slice_nil w _ _ a n c n' c' Try.underlying22
  go_enter Try.func6, Try.ntmps6
  go_wp2
  go_loopw [4] (fun i wr => ∃ (k : Nat) (f : Nat → Int), k ≤ n ∧ i = .int .i64 k ∧ Buf wr w.heap.size n f ∧ Upto l k f ∧ Below w.heap.size w wr) (fun i _ => n - (intOf i).toNat)
  case atStart => exact ⟨0, fun _ => 0, Nat.zero_le _, rfl, World.rowIs_made _ _ _ _, fun j _ hj => by omega, (Below.refl _ _).alloc (Nat.le_refl _) _⟩
  case round =>
    obtain ⟨k, f, hk, rfl, hs, hu, hb⟩ := hrel
    by_cases hlt : k < n
    · obtain ⟨x, hx, hxr, hxc⟩ := (h.on hb).at (k := k) (by omega)
      have hix := fun w => ix22 (c := c) (b := b) (off := off) hlt (h.addr (by omega)) w
      have HS : Hid (Buf wr w.heap.size n f) := hs
      have HU : Hid (Upto l k f) := hu
      have HK : Hid (l[k]? = some x) := hx
      have g1 := hs.cell hlt
      have f1 := hs.frozen k
      clear hs hu hx
      go_wp2
      go_roundw
      case rel => exact ⟨k + 1, _, by omega, by go_num, HS.out.set _ _, HU.out.succ HK.out, hb.setCell (Nat.le_refl _) _⟩
      case measure => simp [intOf]; omega
    · go_wp2
      go_ret
      obtain rfl : k = n := by omega
      exact ⟨rfl, bytes_of_buf hs hl hu h.range, hs.lt, hb⟩

set_option maxHeartbeats 400000 in
theorem clone_nil (w : World) : Calls Try.prog 6 #[.slice none 0 0] w fun e w' => e = .returned (.slice none 0 0) ∧ w' = w := by
  have hnil : ∀ (w : World) (a : Option Addr) (n c n' c' : Nat), (binOp .eql 22 (.slice a n c) (.slice none n' c')).run Try.prog w = .ok (.bool a.isNone) w := fun w a n c n' c' => Lib.run_eql_slice_nil w _ _ a n c n' c' Try.underlying22
  go_enter Try.func6, Try.ntmps6
  go_wp2
  go_ret
  exact ⟨rfl, rfl⟩

theorem clone_any (ao : Option Addr) (n c : Nat) (l : List Int) (b off : Nat) (w : World) (hl : l.length = n) (h : BytesAt w ao l b off) (hn : n ≤ 1048576) (h0 : ao = none → n = 0 ∧ c = 0) :
    Calls Try.prog 6 #[.slice ao n c] w fun e w' => ∃ ao' b', e = .returned (.slice ao' n n) ∧ BytesAt w' ao' l b' 0 ∧ (ao' = none → n = 0) ∧ Below w.heap.size w w' := by
  cases ao with
  | none =>
    obtain ⟨rfl, rfl⟩ := h0 rfl
    refine (clone_nil w).mono fun e w' ⟨he, hw⟩ => ⟨none, 0, he, ?_, fun _ => rfl, by rw [hw]; exact Below.refl _ _⟩
    obtain rfl : l = [] := List.length_eq_zero_iff.1 hl
    exact ⟨fun hp => by simp at hp, fun k p hk => by simp at hk, h.range⟩
  | some a => exact (clone_some (some a) n c l b off w hl h hn rfl).mono fun e w' ⟨he, hm, _, hb⟩ => ⟨_, w.heap.size, he, hm, (fun h => by cases h), hb⟩

/-! ### isJSONSpaceB1 -/
theorem ret_bool {a b : Bool} (h : a = b) : Ending.returned (.bool a) = .returned (.bool b) := by rw [h]
set_option maxHeartbeats 400000 in
theorem isSpace_any (c : Int) (w : World) : Calls Try.prog 11 #[.int .u8 c] w fun e w' => e = .returned (.bool (sp c)) ∧ w' = w := by
  cases h1 : (c == 32) <;> cases h2 : (c == 9) <;> cases h3 : (c == 10)
  all_goals
    go_enter Try.func11, Try.ntmps11
    go_wp2
    go_ret
    exact ⟨ret_bool (by simp [sp, h1, h2, h3]), rfl⟩

end Go.Proofs.Qxb6630088a
