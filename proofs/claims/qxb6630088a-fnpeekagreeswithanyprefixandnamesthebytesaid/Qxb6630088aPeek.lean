/- Seat b6630088a: ZZnewParser, Peek, ZZpeek, ZZpos. -/
import Derived.Test.Qxb6630088aBase
namespace Go.Proofs.Qxb6630088a
open Go.RowKit
set_option linter.unusedVariables false

/-- Block pb is a Parser over the slice, standing at p. -/
def Prs (w : World) (pb : Nat) (ao : Option Addr) (n c : Nat) (p : Nat) : Prop := w.heap[pb]? = some (.cells #[.slice ao n c, .int .i64 (p : Int)] 32 (0, 0))
theorem Prs.c0 {w : World} {pb : Nat} {ao : Option Addr} {n c p : Nat} (h : Prs w pb ao n c p) : w.cell? ⟨pb, 0, none⟩ = some (.slice ao n c) := by unfold Prs at h; simp [World.cell?, h]
theorem Prs.c1 {w : World} {pb : Nat} {ao : Option Addr} {n c p : Nat} (h : Prs w pb ao n c p) : w.cell? ⟨pb, 1, none⟩ = some (.int .i64 (p : Int)) := by unfold Prs at h; simp [World.cell?, h]
theorem Prs.frozen {w : World} {pb : Nat} {ao : Option Addr} {n c p : Nat} (h : Prs w pb ao n c p) (i : Nat) : w.frozen? ⟨pb, i, none⟩ = false := by unfold Prs at h; simp [World.frozen?, h]
theorem Prs.lt {w : World} {pb : Nat} {ao : Option Addr} {n c p : Nat} (h : Prs w pb ao n c p) : pb < w.heap.size := (Array.getElem?_eq_some_iff.1 h).1
theorem Prs.new (w : World) (ao : Option Addr) (n c p : Nat) : Prs (w.alloc (.cells #[.slice ao n c, .int .i64 (p : Int)] 32)) w.heap.size ao n c p := Go.Deep.blk_alloc_new _ _
theorem Prs.set {w : World} {pb : Nat} {ao : Option Addr} {n c p : Nat} (h : Prs w pb ao n c p) (q : Nat) (v : Int) (hv : v = (q : Int)) : Prs (w.setCell ⟨pb, 1, none⟩ (.int .i64 v)) pb ao n c q := by
  subst hv
  unfold Prs at h ⊢
  simp [World.setCell, Array.getElem?_modify, h]
theorem Prs.drewN {w : World} {pb : Nat} {ao : Option Addr} {n c p : Nat} (h : Prs w pb ao n c p) (m : Nat) : Prs (w.drewN m) pb ao n c p := h
theorem ret_u8 {a b : Int} (h : a = b) : Ending.returned (.int .u8 a) = .returned (.int .u8 b) := by rw [h]

set_option maxHeartbeats 400000 in
theorem newParser_any (ao : Option Addr) (n c p : Nat) (w : World) : Calls Try.prog 7 #[.slice ao n c, .int .i64 (p : Int)] w fun e w' => e = .returned (.pointer (some ⟨w.heap.size, 0, none⟩)) ∧ Prs w' w.heap.size ao n c p ∧ Below w.heap.size w w' := by
  go_enter Try.func7, Try.ntmps7
  go_wp2
  go_ret
  exact ⟨rfl, Prs.new _ _ _ _ _, (Below.refl _ _).alloc (Nat.le_refl _) _⟩

set_option maxHeartbeats 400000 in
theorem pos_any (pb : Nat) (ao : Option Addr) (n c p : Nat) (w : World) (h : Prs w pb ao n c p) : Calls Try.prog 9 #[.pointer (some ⟨pb, 0, none⟩)] w fun e w' => e = .returned (.int .i64 (p : Int)) ∧ w' = w := by
  have h1 := h.c1
  go_enter Try.func9, Try.ntmps9
  go_wp2
  go_ret
  exact ⟨rfl, rfl⟩

/-- Only block pb has turned. -/
theorem kept_drew {w wr : World} {r : Option Nat} (h : w.grownBy wr r) (m : Nat) : w.grownBy (wr.drewN m) r := ⟨h.os, h.tape, h.output, h.size, h.block⟩
theorem kept_set {w wr : World} {pb : Nat} (h : w.grownBy wr (some pb)) (o : Nat) (v : Value) : w.grownBy (wr.setCell ⟨pb, o, none⟩ v) (some pb) :=
  ⟨h.os, h.tape, h.output, by simpa [World.setCell] using h.size, fun k hk hr => (Below.heap_setCell _ _ _ _ (fun e => hr (by rw [e]))).trans (h.block k hk hr)⟩
theorem bytes_kept {w wr : World} {pb : Nat} {ao : Option Addr} {l : List Int} {b off : Nat} (h : BytesAt w ao l b off) (hg : w.grownBy wr (some pb)) (hb : 0 < l.length → b ≠ pb) : BytesAt wr ao l b off := by
  by_cases hp : 0 < l.length
  · exact h.block (hg.block b (h.lt hp) (by intro e; exact hb hp (Option.some.inj e)))
  · obtain rfl : l = [] := List.length_eq_zero_iff.1 (by omega)
    exact ⟨h.addr, fun k c hk => by simp at hk, h.range⟩

set_option maxHeartbeats 1000000 in
theorem peek_any (pb : Nat) (ao : Option Addr) (n c p b off : Nat) (l : List Int) (w : World) (hl : l.length = n) (h : BytesAt w ao l b off) (hP : Prs w pb ao n c p) (hb : 0 < l.length → b ≠ pb) (hp : p ≤ n) (hn : n ≤ 1048576) :
    Calls Try.prog 12 #[.pointer (some ⟨pb, 0, none⟩)] w fun e w' => e = .returned (.int .u8 (byteAt l (stopAt l p))) ∧ Prs w' pb ao n c (stopAt l p) ∧ w.grownBy w' (some pb) := by
  go_enter Try.func12, Try.ntmps12
  go_wp2_with fail
  go_loopg [3] (n - p) (fun k c3 wr => ∃ r : Nat, r ≤ n ∧ n - r ≤ k ∧ Prs wr pb ao n c r ∧ stopAt l r = stopAt l p ∧ w.grownBy wr (some pb))
  case atStart => exact ⟨p, hp, Nat.le_refl _, hP, rfl, World.grownBy.refl _ _⟩
  case round =>
    obtain ⟨r, hr, hrk, hPr, hst, hg⟩ := hrel
    have HSt : Hid (stopAt l r = stopAt l p) := hst
    have HP : Hid (Prs wr pb ao n c r) := hPr
    have c0 := hPr.c0
    have c1 := hPr.c1
    have f1 := hPr.frozen 1
    clear hst hPr
    by_cases hlt : r < n
    · obtain ⟨x, hx, hxr, hxc⟩ := (bytes_kept h hg hb).at (k := r) (by omega)
      have hix := fun w => ix22 (c := c) (b := b) (off := off) hlt (h.addr (by omega)) w
      have HX : Hid (l[r]? = some x) := hx
      clear hx
      go_wp2_with fail
      go_quiet (fail)
      go_wp2_with fail
      go_quiet (fail)
      go_wp2_with fail
      all_goals first
        | (go_roundg (n - (r + 1))
           case measure => omega
           case rel =>
             have hs : sp x = true := by simp [sp, *]
             exact ⟨r + 1, by omega, Nat.le_refl _, Prs.set (HP.out.drewN _) (r + 1) _ (by omega), (stop_space HX.out hs).symm.trans HSt.out, kept_set (kept_drew hg _) _ _⟩)
        | (have hs : sp x = false := by simp [sp, *]
           have hq : stopAt l p = r := HSt.out.symm.trans (stop_here HX.out hs)
           go_ret
           exact ⟨ret_u8 (by rw [hq, byte_here HX.out]), by rw [hq]; exact HP.out.drewN _, kept_drew hg _⟩)
    · have hq : stopAt l p = r := HSt.out.symm.trans (stop_end (by omega))
      have HQ : Hid (stopAt l p = r) := hq
      have HB : Hid (byteAt l r = 0) := byte_end (by omega)
      clear hq
      go_wp2_with fail
      go_quiet (fail)
      go_wp2_with fail
      go_ret
      exact ⟨ret_u8 (by rw [HQ.out, HB.out]), by rw [HQ.out]; exact HP.out.drewN _, kept_drew hg _⟩

set_option maxHeartbeats 400000 in
theorem zzpeek_any (pb : Nat) (ao : Option Addr) (n c p b off : Nat) (l : List Int) (w : World) (hl : l.length = n) (h : BytesAt w ao l b off) (hP : Prs w pb ao n c p) (hb : 0 < l.length → b ≠ pb) (hp : p ≤ n) (hn : n ≤ 1048576) :
    Calls Try.prog 8 #[.pointer (some ⟨pb, 0, none⟩)] w fun e w' => e = .returned (.int .u8 (byteAt l (stopAt l p))) ∧ Prs w' pb ao n c (stopAt l p) ∧ w.grownBy w' (some pb) := by
  go_enter Try.func8, Try.ntmps8
  go_wp2_with fail
  refine (peek_any pb ao n c p b off l w hl h hP hb hp hn).mono ?_
  rintro e w1 ⟨rfl, h1, h2⟩
  go_wp2
  go_ret
  exact ⟨rfl, h1, h2⟩

end Go.Proofs.Qxb6630088a
