/- Seat b6630060a: AppendOffsetVarint appends 'enc n' (a negative n: its low seven bits). -/
import Derived.Test.Qxb6630060aBase
import Derived.Deep.OwnRows
namespace Go.Proofs.Qxb6630060a
open Go.RowKit
set_option linter.unusedVariables false

/-- What is appended for n. -/
def encI (n : Int) : List Int := if n < 0 then [n % 128] else enc n.toNat

theorem or128Tab : ∀ n : Fin 128, bits BinOp.or IntKind.u8 128 (n.val : Int) = 128 + (n.val : Int) := by decide +kernel
theorem or128 (c : Int) (h0 : 0 ≤ c) (h1 : c < 128) : bits BinOp.or IntKind.u8 128 c = 128 + c := by
  have := or128Tab ⟨c.toNat, by omega⟩
  rw [show ((⟨c.toNat, by omega⟩ : Fin 128).val : Int) = c by simp; omega] at this
  exact this

/-- The array of ten bytes in block B. -/
def Buf (w : World) (B : Nat) (f : Nat → Int) : Prop := w.rowIs B 31 10 (fun j => .int .u8 (f j))
theorem Buf.cell {w : World} {B : Nat} {f : Nat → Int} (h : Buf w B f) {i : Nat} (hi : i < 10) : w.cell? ⟨B, i, none⟩ = some (.int .u8 (f i)) := World.rowIs.cell h hi
theorem Buf.frozen {w : World} {B : Nat} {f : Nat → Int} (h : Buf w B f) (i : Nat) : w.frozen? ⟨B, i, none⟩ = false := World.rowIs.frozen h i
theorem Buf.set {w : World} {B : Nat} {f : Nat → Int} (h : Buf w B f) (i : Nat) (c : Int) : Buf (w.setCell ⟨B, i, none⟩ (.int .u8 c)) B (fun j => if j = i then c else f j) :=
  (World.rowIs.set h i (.int .u8 c)).congr (fun j _ => by by_cases e : j = i <;> simp [e])
/-- From i on the array holds acc. -/
def Holds (f : Nat → Int) (i : Nat) (acc : List Int) : Prop := ∀ j c, acc[j]? = some c → f (i + j) = c
theorem Holds.push {f : Nat → Int} {i : Nat} {acc : List Int} (h : Holds f (i + 1) acc) (c : Int) : Holds (fun j => if j = i then c else f j) i (c :: acc) := by
  intro j d hd
  cases j with
  | zero => simp at hd; simp [hd]
  | succ j =>
    simp at hd
    have := h j d hd
    show (if i + (j + 1) = i then c else f (i + (j + 1))) = d
    rw [if_neg (by omega), show i + (j + 1) = i + 1 + j by omega]
    exact this
theorem Holds.cells {w : World} {B i : Nat} {f : Nat → Int} {acc : List Int} (h : Holds f i acc) (hb : Buf w B f) (hl : i + acc.length = 10) : ∀ j u, (byV acc)[j]? = some u → w.cell? ((⟨B, i, none⟩ : Addr).add j) = some u := by
  intro j u hu
  obtain ⟨c, hc, rfl⟩ := byV_at hu
  have hj := (List.getElem?_eq_some_iff.1 hc).1
  rw [Addr.add_lit, hb.cell (by omega), h j c hc]
theorem own_below {w w' : World} {B K : Nat} {v : Value} {l : List Int} (h : Own w B v l) (hb : Below K w w') (hK : w.heap.size ≤ K) : Own w' B v l := by
  obtain ⟨h1, h2⟩ := h
  refine ⟨h1, ?_⟩
  rcases h2 with h2 | ⟨g, cap, cur, hv, hg, hh, r⟩
  · exact Or.inl h2
  · exact Or.inr ⟨g, cap, cur, hv, hg, (hb.block g (Nat.lt_of_lt_of_le (Array.getElem?_eq_some_iff.1 hh).1 hK)).trans hh, r⟩
theorem grown_trans {w wr w' : World} {r : Option Nat} (hb : Below w.heap.size w wr) (hg : wr.grownBy w' r) : w.grownBy w' r :=
  ⟨hg.os.trans hb.os, hg.tape.trans hb.tape, hg.output.trans hb.output, Nat.le_trans hb.size hg.size, fun k hk hr => (hg.block k (Nat.lt_of_lt_of_le hk hb.size) hr).trans (hb.block k hk)⟩
theorem own_push {w' : World} {B : Nat} {v' : Value} {l acc : List Int} (h : w'.ownsRow B 5 1 v' (l.length + acc.length) (byV l ++ byV acc)) : Own w' B v' (l ++ acc) := by
  unfold Own
  rw [List.length_append, show byV (l ++ acc) = byV l ++ byV acc by simp [byV]]
  exact h

theorem start_buf (w : World) (c : Int) : Buf (w.alloc (.cells #[.int .u8 0, .int .u8 0, .int .u8 0, .int .u8 0, .int .u8 0, .int .u8 0, .int .u8 0, .int .u8 0, .int .u8 0, .int .u8 c] 31)) w.heap.size (fun j => if j = 9 then c else 0) := by
  refine World.rowIs_alloc w #[.int .u8 0, .int .u8 0, .int .u8 0, .int .u8 0, .int .u8 0, .int .u8 0, .int .u8 0, .int .u8 0, .int .u8 0, .int .u8 c] 31 _ ?_
  intro i hi
  match i, hi with
  | 0, _ => rfl
  | 1, _ => rfl
  | 2, _ => rfl
  | 3, _ => rfl
  | 4, _ => rfl
  | 5, _ => rfl
  | 6, _ => rfl
  | 7, _ => rfl
  | 8, _ => rfl
  | 9, _ => rfl
  | (i + 10), hi => simp at hi; omega
theorem start_holds (c : Int) : Holds (fun j => if j = 9 then c else 0) 9 [c] := by
  intro j d hd
  match j, hd with
  | 0, hd => simp at hd; simp [hd]
  | (j + 1), hd => simp at hd

set_option maxHeartbeats 1000000 in
theorem append_neg (B : Nat) (v : Value) (l : List Int) (x : Int) (w : World) (hown : Own w B v l) (hl : l.length ≤ 1048576) (hx0 : -9223372036854775808 ≤ x) (hx : x < 0) (hB : B ≤ w.heap.size) :
    Calls Try.prog 7 #[v, .int .i64 x] w fun e w' => ∃ v', e = .returned v' ∧ Own w' B v' (l ++ [x % 128]) ∧ w.grownBy w' v.ownBlock := by
  obtain ⟨i0, hi, hz0, hz1, hz2⟩ := info_parts info5
  have HO : Hid (Own w B v l) := hown
  clear hown
  have hand := i64_and127
  go_enter Try.func7, Try.ntmps7
  go_wp2_with fail
  refine wp_loop_rounds 1 ?_
  rw [rounds_succ]
  have hB1 : Below w.heap.size w (w.alloc (.cells #[.int .u8 0, .int .u8 0, .int .u8 0, .int .u8 0, .int .u8 0, .int .u8 0, .int .u8 0, .int .u8 0, .int .u8 0, .int .u8 (x % 128)] 31)) := (Below.refl _ _).alloc (Nat.le_refl _) _
  go_wp2_with (at_builtin; refine wpList_append_own _ rfl (.tmp 28) (.tmp 30) 22 rfl B 5 i0 (.int .u8 0) 1 1 Try.underlying22 hi hz0 hz1 hz2 rfl (by decide) _ _ _ rfl (own_below HO.out hB1 (Nat.le_refl _)) _ 1 1 (byV [x % 128]) rfl rfl ((start_holds (x % 128)).cells (start_buf w (x % 128)) rfl) (byV_one _) (by unfold maxLen; omega) (by omega) (by simp; omega) ?_; intro v' w1 hown' hgrow _)
  have R := own_push hown'
  have G := grown_trans hB1 hgrow
  clear hown' hgrow
  go_wp2
  go_ret
  exact ⟨_, rfl, R, G⟩

theorem slice31 (B i : Nat) (h : i ≤ 8) (w : World) : (Instr.sliceAt 31 (.pointer (some ⟨B, 0, none⟩)) (some (.int .i64 ((i : Int) + 1))) none none).run Try.prog w = .ok (.slice (some ⟨B, i + 1, none⟩) (9 - i) (9 - i)) w := by
  have ha : Try.prog.arrayLen 31 = 10 := by kernel_rfl
  have he : Try.prog.elem 31 = 5 := by kernel_rfl
  have hs : (sizeOf 5).run Try.prog w = .ok 1 w := by kernel_rfl
  rw [run_sliceAt_array_l (P := Try.prog) w 31 ⟨B, 0, none⟩ (by kernel_rfl) .i64 ((i : Int) + 1) (by omega) (by rw [ha]; omega), he, hs, ha]
  have e1 : ((i : Int) + 1).toNat = i + 1 := by omega
  simp only [Result.andThen, slicedAt, e1, Nat.mul_one, Addr.add_lit, Nat.zero_add]
  rw [if_neg (by omega), show 10 - (i + 1) = 9 - i by omega]
theorem int_eq {k : IntKind} {a b : Int} (h : a = b) : Value.int k a = .int k b := by rw [h]
theorem groups_step' {i m : Nat} (h : 0 < m) (acc : List Int) {E : List Int} (he : groups (i + 1) m ++ acc = E) : groups i ((m - 1) / 128) ++ (128 + (((m - 1) % 128 : Nat) : Int)) :: acc = E := (groups_step i m h acc).symm.trans he
theorem pow_next {i m : Nat} (h : m < 128 ^ (i + 1)) : (m - 1) / 128 < 128 ^ i := by
  rw [pow_succ128] at h
  omega
theorem pow_pos' {i m : Nat} (h : m < 128 ^ i) (hm : 0 < m) : 0 < i := by
  cases i with
  | zero => simp at h; omega
  | succ i => omega

set_option maxHeartbeats 1000000 in
theorem append_pos (B : Nat) (v : Value) (l : List Int) (x : Nat) (w : World) (hown : Own w B v l) (hl : l.length ≤ 1048576) (hx : x < 9223372036854775808) (hB : B ≤ w.heap.size) :
    Calls Try.prog 7 #[v, .int .i64 x] w fun e w' => ∃ v', e = .returned v' ∧ Own w' B v' (l ++ enc x) ∧ w.grownBy w' v.ownBlock := by
  obtain ⟨i0, hi, hz0, hz1, hz2⟩ := info_parts info5
  have HO : Hid (Own w B v l) := hown
  clear hown
  have hand := i64_and127
  go_enter Try.func7, Try.ntmps7
  go_wp2_with fail
  go_loopw [1, 6] (fun mm ii wr => ∃ (i m : Nat) (acc : List Int) (f : Nat → Int), i ≤ 8 ∧ i + 1 + acc.length = 10 ∧ m ≤ 72057594037927936 ∧ m < 128 ^ i ∧ groups i m ++ acc = enc x ∧ mm = .int .i64 m ∧ ii = .int .i64 ((i + 1 : Nat) : Int) ∧ Buf wr w.heap.size f ∧ Holds f (i + 1) acc ∧ Below w.heap.size w wr) (fun _ ii _ => (intOf ii).toNat)
  case atStart => exact ⟨8, x / 128, [((x % 128 : Nat) : Int)], _, by omega, rfl, by omega, by omega, rfl, by first | rfl | go_num, by first | rfl | go_num, start_buf w _, start_holds _, (Below.refl _ _).alloc (Nat.le_refl _) _⟩
  case round =>
    obtain ⟨i, m, acc, f, hi8, hlen, hm56, hpow, hgr, rfl, rfl, hbuf, hhold, hb⟩ := hrel
    by_cases hm : 0 < m
    · have hi0 := pow_pos' hpow hm
      obtain ⟨i, rfl⟩ : ∃ i', i = i' + 1 := ⟨i - 1, by omega⟩
      have HG : Hid (groups i ((m - 1) / 128) ++ (128 + (((m - 1) % 128 : Nat) : Int)) :: acc = enc x) := groups_step' hm acc hgr
      have HPw : Hid ((m - 1) / 128 < 128 ^ i) := pow_next hpow
      have HB : Hid (Buf wr w.heap.size f) := hbuf
      have HH : Hid (Holds f (i + 1 + 1) acc) := hhold
      have ho := or128 (((m : Int) - 1) % 128) (by omega) (by omega)
      have c0 := hbuf.cell (i := i + 1) (by omega)
      have c1 := hbuf.frozen (i + 1)
      clear hgr hpow hbuf hhold
      go_wp2_with fail
      have e1 : (128 : Int) + ((m : Int) - 1) % 128 = 128 + (((m - 1) % 128 : Nat) : Int) := by omega
      go_roundw
      case rel => exact ⟨i, (m - 1) / 128, _, _, by omega, by simp; omega, by omega, HPw.out, HG.out, int_eq (by omega), int_eq (by omega), e1 ▸ HB.out.set _ _, HH.out.push _, hb.setCell (Nat.le_refl _) _⟩
      case measure => simp [intOf]; omega
    · obtain rfl : m = 0 := by omega
      have HE : Hid (acc = enc x) := by
        rw [groups_zero, List.nil_append] at hgr
        exact hgr
      have hsl := slice31 w.heap.size i (by omega)
      clear hgr hpow
      go_wp2_with (at_builtin; refine wpList_append_own _ rfl (.tmp 28) (.tmp 30) 22 rfl B 5 i0 (.int .u8 0) 1 1 Try.underlying22 hi hz0 hz1 hz2 rfl (by decide) _ _ _ rfl (own_below HO.out hb (Nat.le_refl _)) ⟨w.heap.size, i + 1, none⟩ (9 - i) (9 - i) (byV acc) rfl (by rw [byV_length]; omega) (hhold.cells hbuf (by omega)) (byV_one _) (by unfold maxLen; omega) (by omega) (by have := hb.size; omega) ?_; intro v' w1 hown' hgrow _)
      have R : Own w1 B v' (l ++ acc) := own_push (by rw [show acc.length = 9 - i by omega]; exact hown')
      rw [HE.out] at R
      have G := grown_trans hb hgrow
      clear hown' hgrow
      go_wp2
      go_ret
      exact ⟨_, rfl, R, G⟩

theorem append_any (B : Nat) (v : Value) (l : List Int) (x : Int) (w : World) (hown : Own w B v l) (hl : l.length ≤ 1048576) (hx0 : -9223372036854775808 ≤ x) (hx1 : x ≤ 9223372036854775807) (hB : B ≤ w.heap.size) :
    Calls Try.prog 7 #[v, .int .i64 x] w fun e w' => ∃ v', e = .returned v' ∧ Own w' B v' (l ++ encI x) ∧ w.grownBy w' v.ownBlock := by
  by_cases hx : x < 0
  · rw [encI, if_pos hx]
    exact append_neg B v l x w hown hl hx0 hx hB
  · rw [encI, if_neg hx]
    have := append_pos B v l x.toNat w hown hl (by omega) hB
    rw [show ((x.toNat : Nat) : Int) = x by omega] at this
    exact this
theorem encI_range (x : Int) : ∀ c ∈ encI x, 0 ≤ c ∧ c ≤ 255 := by
  unfold encI
  split
  · intro c hc
    simp at hc
    omega
  · exact enc_range _
theorem encI_pos (x : Int) : 0 < (encI x).length := by
  unfold encI
  split
  · simp
  · exact enc_pos _
theorem encI_length (x : Int) : (encI x).length ≤ 9 := by
  unfold encI
  split
  · simp
  · exact enc_length _

end Go.Proofs.Qxb6630060a
