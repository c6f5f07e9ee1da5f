/- Seat b6630009aF: the two Validates and zzBad. -/
import Derived.Test.Qxb6630009aFmtNames
namespace Go.Proofs.Qxb6630009aFmt
open Go.RowKit Go.Extern.Stop Go.Stop Go.Extern

/-- The slice at 'ao' holds the strings l. -/
structure StrsAt (w : World) (ao : Option Addr) (l : List ByteArray) (b off : Nat) : Prop where
  addr : 0 < l.length → ao = some ⟨b, off, none⟩
  cells : ∀ k s, l[k]? = some s → w.cell? ⟨b, off + k, none⟩ = some (.string s)
  short : ∀ s ∈ l, s.size ≤ maxLen

theorem StrsAt.lt {w : World} {ao : Option Addr} {l : List ByteArray} {b off : Nat} (h : StrsAt w ao l b off) (hp : 0 < l.length) : b < w.heap.size :=
  World.block_lt_of_cell? _ _ (h.cells 0 l[0] (by simp [hp]))
theorem StrsAt.below {w w' : World} {ao : Option Addr} {l : List ByteArray} {b off B : Nat} (h : StrsAt w ao l b off) (hb : Below B w w') (hB : b < B) : StrsAt w' ao l b off :=
  ⟨h.addr, fun k s hk => (hb.cell (p := ⟨b, off + k, none⟩) hB).trans (h.cells k s hk), h.short⟩
theorem StrsAt.on {w w' : World} {ao : Option Addr} {l : List ByteArray} {b off : Nat} (h : StrsAt w ao l b off) (hb : Below w.heap.size w w') : StrsAt w' ao l b off := by
  by_cases hp : 0 < l.length
  · exact h.below hb (h.lt hp)
  · have : l = [] := List.length_eq_zero_iff.1 (by omega)
    subst this
    exact ⟨h.addr, fun k s hk => by simp at hk, h.short⟩
theorem StrsAt.at {w : World} {ao : Option Addr} {l : List ByteArray} {b off k : Nat} (h : StrsAt w ao l b off) (hk : k < l.length) : ∃ s, l[k]? = some s ∧ s.size ≤ maxLen ∧ w.cell? ⟨b, off + k, none⟩ = some (.string s) :=
  ⟨l[k], by simp [hk], h.short _ (List.getElem_mem hk), h.cells k l[k] (by simp [hk])⟩

theorem ix22 {ao : Option Addr} {n c b off k : Nat} (hk : k < n) (h : ao = some ⟨b, off, none⟩) (w : World) :
    (Instr.indexAt 22 (.slice ao n c) (.int .i64 (k : Int))).run Tryf.prog w = .ok (.pointer (some ⟨b, off + k, none⟩)) w := by
  subst h
  have hs : (sizeOf 9).run Tryf.prog w = .ok 1 w := by kernel_rfl
  rw [run_indexAt_slice (P := Tryf.prog) w 22 _ _ _ _ _ (by kernel_rfl), if_pos (by omega), show Tryf.prog.elem 22 = 9 by kernel_rfl, hs]
  simp [go_sem]

def entity : ByteArray := ⟨#[101, 110, 116, 105, 116, 121]⟩

theorem any_take {l : List ByteArray} {k : Nat} {s : ByteArray} {f : ByteArray → Bool} (h : l[k]? = some s) : (l.take (k + 1)).any f = ((l.take k).any f || f s) := by
  obtain ⟨hk, rfl⟩ := List.getElem?_eq_some_iff.1 h
  rw [List.take_succ_eq_append_getElem hk, List.any_append, List.any_cons, List.any_nil, Bool.or_false]
theorem any_of_at {l : List ByteArray} {k : Nat} {s : ByteArray} {f : ByteArray → Bool} (h : l[k]? = some s) (hf : f s = true) : l.any f = true := by
  rw [List.any_eq_true]
  exact ⟨s, List.mem_of_getElem? h, hf⟩
theorem any_full {l : List ByteArray} {k : Nat} {f : ByteArray → Bool} (h : l.length ≤ k) : (l.take k).any f = l.any f := by rw [List.take_of_length_le h]

set_option maxHeartbeats 1000000 in
theorem validateE_any (F : Interp) (typ : ByteArray) (ao : Option Addr) (n c b off : Nat) (l : List ByteArray) (w : World) (hF : F.answers w.tape) (ht : typ.size ≤ maxLen) (hl : l.length = n) (hn : n ≤ 1048577) (h : StrsAt w ao l b off) :
    Calls Tryf.prog 17 #[.agg #[.string typ, .slice ao n c], .string ⟨#[101, 110, 116, 105, 116, 121]⟩] w fun e w' => ErrIf (!((setB typ && !nameB typ) || l.any (fun s => !idB s))) e ∧ Below w.heap.size w w' := by
  have hB0 : Below w.heap.size w (w.alloc (.cells #[.string typ, .slice ao n c] 29)) := (Below.refl _ _).alloc (Nat.le_refl _) _
  go_enter Tryf.func17, Tryf.ntmps17
  go_wp2_with fail
  refine (checkNameIfSet_any F _ typ _ (by exact hF) ht).mono ?_
  rintro e w1 ⟨h1, hb1⟩
  have B1 : Below w.heap.size w w1 := hB0.trans (hb1.mono (by simp))
  have C1 := (hb1.cell (p := ⟨w.heap.size, 1, none⟩) (by simp)).trans (show (w.alloc (.cells #[.string typ, .slice ao n c] 29)).cell? ⟨w.heap.size, 1, none⟩ = some (.slice ao n c) by simp)
  cases hn1 : (setB typ && !nameB typ)
  · obtain rfl := h1.1 (by rw [hn1]; rfl)
    clear h1 hb1 hB0
    go_wp2_with fail
    go_loopw [20] (fun i wr => ∃ k : Nat, k ≤ n ∧ i = .int .i64 k ∧ (l.take k).any (fun s => !idB s) = false ∧ Below w1.heap.size w1 wr) (fun i _ => n - (intOf i).toNat)
    case atStart => exact ⟨0, Nat.zero_le _, rfl, by simp, Below.refl _ _⟩
    case round =>
      obtain ⟨k, hk, rfl, ha, hb⟩ := hrel
      have HA : Hid ((l.take k).any (fun s => !idB s) = false) := ha
      clear ha
      have B2 : Below w.heap.size w wr := B1.trans (hb.mono B1.size)
      by_cases hlt : k < n
      · obtain ⟨s, hsk, hsl, hsc⟩ := (h.on B2).at (k := k) (by omega)
        have HK : Hid (l[k]? = some s) := hsk
        have hix := fun w => ix22 (c := c) (b := b) (off := off) hlt (h.addr (by omega)) w
        clear hsk
        go_wp2_with fail
        refine (checkID_any F _ s _ (by rw [B2.tape]; exact hF) hsl).mono ?_
        rintro e w2 ⟨h2, hb2⟩
        have B3 : Below w1.heap.size w1 w2 := hb.trans (hb2.mono hb.size)
        cases hi : idB s
        · obtain ⟨a, rfl⟩ := h2.2 hi
          clear h2 hb2
          have HB : Hid (l.any (fun s => !idB s) = true) := any_of_at HK.out (by rw [hi]; rfl)
          go_wp2
          go_ret
          exact ⟨errIf_bad (by rw [hn1, HB.out]; rfl) _, B1.trans (B3.mono B1.size)⟩
        · obtain rfl := h2.1 hi
          clear h2 hb2
          have HB : Hid ((l.take (k + 1)).any (fun s => !idB s) = false) := by
            show (l.take (k + 1)).any (fun s => !idB s) = false
            rw [any_take HK.out, HA.out, hi]
            rfl
          go_wp2
          go_roundw
          case rel => exact ⟨k + 1, by omega, by go_num, HB.out, B3⟩
          case measure => simp [intOf]; omega
      · have HB : Hid (l.any (fun s => !idB s) = false) := by rw [← any_full (k := k) (by omega)]; exact HA.out
        go_wp2
        go_ret
        exact ⟨errIf_ok (by rw [hn1, HB.out]; rfl), B2⟩
  · obtain ⟨a, rfl⟩ := h1.2 (by rw [hn1]; rfl)
    go_wp2
    go_ret
    exact ⟨errIf_bad (by rw [hn1]; rfl) _, B1⟩

set_option maxHeartbeats 1000000 in
theorem validateV_any (F : Interp) (typ : ByteArray) (ao : Option Addr) (n c b off : Nat) (l : List ByteArray) (w : World) (hF : F.answers w.tape) (ht : typ.size ≤ maxLen) (hl : l.length = n) (hn : n ≤ 1048577) (h : StrsAt w ao l b off) :
    Calls Tryf.prog 15 #[.agg #[.string typ, .slice ao n c]] w fun e w' => ErrIf (!((setB typ && !nameB typ) || l.any (fun s => !idB s))) e ∧ Below w.heap.size w w' := by
  have hB0 : Below w.heap.size w (w.alloc (.cells #[.string typ, .slice ao n c] 29)) := (Below.refl _ _).alloc (Nat.le_refl _) _
  go_enter Tryf.func15, Tryf.ntmps15
  go_wp2_with fail
  refine (validateE_any F typ ao n c b off l _ (by exact hF) ht hl hn (h.on hB0)).mono ?_
  rintro e w1 ⟨h1, hb1⟩
  have B1 : Below w.heap.size w w1 := hB0.trans (hb1.mono (by simp))
  have HE : Hid (ErrIf (!((setB typ && !nameB typ) || l.any (fun s => !idB s))) e) := h1
  cases hok : (!((setB typ && !nameB typ) || l.any (fun s => !idB s)))
  · obtain ⟨a, rfl⟩ := h1.2 hok
    clear h1 hok
    go_wp2
    go_ret
    exact ⟨HE.out, B1⟩
  · obtain rfl := h1.1 hok
    clear h1 hok
    go_wp2
    go_ret
    exact ⟨HE.out, B1⟩

set_option maxHeartbeats 1000000 in
theorem filter_any (F : Interp) (typ : ByteArray) (ao ao2 : Option Addr) (n c b off n2 c2 b2 off2 : Nat) (l l2 : List ByteArray) (w : World) (hF : F.answers w.tape) (ht : typ.size ≤ maxLen) (hl : l.length = n) (hn : n ≤ 1048577) (h : StrsAt w ao l b off)
    (hl2 : l2.length = n2) (hn2 : n2 ≤ 1048577) (h2 : StrsAt w ao2 l2 b2 off2) :
    Calls Tryf.prog 12 #[.agg #[.string typ, .slice ao n c, .slice ao2 n2 c2]] w fun e w' => ErrIf (!badB typ l l2) e ∧ Below w.heap.size w w' := by
  have hB0 : Below w.heap.size w (w.alloc (.cells #[.string typ, .slice ao n c, .slice ao2 n2 c2] 31)) := (Below.refl _ _).alloc (Nat.le_refl _) _
  go_enter Tryf.func12, Tryf.ntmps12
  go_wp2_with fail
  refine (validateV_any F typ ao n c b off l _ (by exact hF) ht hl hn (h.on hB0)).mono ?_
  rintro e w1 ⟨h1, hb1⟩
  have B1 : Below w.heap.size w w1 := hB0.trans (hb1.mono (by simp))
  have C1 := (hb1.cell (p := ⟨w.heap.size, 2, none⟩) (by simp)).trans (show (w.alloc (.cells #[.string typ, .slice ao n c, .slice ao2 n2 c2] 31)).cell? ⟨w.heap.size, 2, none⟩ = some (.slice ao2 n2 c2) by simp)
  cases hn1 : ((setB typ && !nameB typ) || l.any (fun s => !idB s))
  · obtain rfl := h1.1 (by rw [hn1]; rfl)
    clear h1 hb1 hB0
    have HN : Hid (((setB typ && !nameB typ) || l.any (fun s => !idB s)) = false) := hn1
    clear hn1
    go_wp2_with fail
    go_loopw [16] (fun i wr => ∃ k : Nat, k ≤ n2 ∧ i = .int .i64 k ∧ (l2.take k).any (fun s => !nameB s) = false ∧ Below w1.heap.size w1 wr) (fun i _ => n2 - (intOf i).toNat)
    case atStart => exact ⟨0, Nat.zero_le _, rfl, by simp, Below.refl _ _⟩
    case round =>
      obtain ⟨k, hk, rfl, ha, hb⟩ := hrel
      have HA : Hid ((l2.take k).any (fun s => !nameB s) = false) := ha
      clear ha
      have B2 : Below w.heap.size w wr := B1.trans (hb.mono B1.size)
      by_cases hlt : k < n2
      · obtain ⟨s, hsk, hsl, hsc⟩ := (h2.on B2).at (k := k) (by omega)
        have HK : Hid (l2[k]? = some s) := hsk
        have hix := fun w => ix22 (c := c2) (b := b2) (off := off2) hlt (h2.addr (by omega)) w
        clear hsk
        go_wp2_with fail
        refine (checkName_any F _ s _ (by rw [B2.tape]; exact hF) hsl).mono ?_
        rintro e w2 ⟨h3, hb2⟩
        have B3 : Below w1.heap.size w1 w2 := hb.trans (hb2.mono hb.size)
        cases hi : nameB s
        · obtain ⟨a, rfl⟩ := h3.2 hi
          clear h3 hb2
          have HB : Hid (l2.any (fun s => !nameB s) = true) := any_of_at HK.out (by rw [hi]; rfl)
          go_wp2
          go_ret
          exact ⟨errIf_bad (by rw [badB, HN.out, HB.out]; rfl) _, B1.trans (B3.mono B1.size)⟩
        · obtain rfl := h3.1 hi
          clear h3 hb2
          have HB : Hid ((l2.take (k + 1)).any (fun s => !nameB s) = false) := by
            show (l2.take (k + 1)).any (fun s => !nameB s) = false
            rw [any_take HK.out, HA.out, hi]
            rfl
          go_wp2
          go_roundw
          case rel => exact ⟨k + 1, by omega, by go_num, HB.out, B3⟩
          case measure => simp [intOf]; omega
      · have HB : Hid (l2.any (fun s => !nameB s) = false) := by rw [← any_full (k := k) (by omega)]; exact HA.out
        go_wp2
        go_ret
        exact ⟨errIf_ok (by rw [badB, HN.out, HB.out]; rfl), B2⟩
  · obtain ⟨a, rfl⟩ := h1.2 (by rw [hn1]; rfl)
    go_wp2
    go_ret
    exact ⟨errIf_bad (by rw [badB, hn1]; rfl) _, B1⟩

set_option maxHeartbeats 1000000 in
theorem zzBad_any (F : Interp) (typ : ByteArray) (ao ao2 : Option Addr) (n c b off n2 c2 b2 off2 : Nat) (l l2 : List ByteArray) (w : World) (hF : F.answers w.tape) (ht : typ.size ≤ maxLen) (hl : l.length = n) (hn : n ≤ 1048577) (h : StrsAt w ao l b off)
    (hl2 : l2.length = n2) (hn2 : n2 ≤ 1048577) (h2 : StrsAt w ao2 l2 b2 off2) :
    Calls Tryf.prog 7 #[.string typ, .slice ao n c, .slice ao2 n2 c2] w fun e w' => e = .returned (.bool (badB typ l l2)) ∧ Below w.heap.size w w' := by
  have hB0 : Below w.heap.size w (w.alloc (.cells #[.string typ, .slice ao n c, .slice ao2 n2 c2] 31)) := (Below.refl _ _).alloc (Nat.le_refl _) _
  go_enter Tryf.func7, Tryf.ntmps7
  go_wp2_with fail
  refine (filter_any F typ ao ao2 n c b off n2 c2 b2 off2 l l2 _ (by exact hF) ht hl hn (h.on hB0) hl2 hn2 (h2.on hB0)).mono ?_
  rintro e w1 ⟨h1, hb1⟩
  have B1 : Below w.heap.size w w1 := hB0.trans (hb1.mono (by simp))
  cases hok : badB typ l l2
  · obtain rfl := h1.1 (by rw [hok]; rfl)
    go_wp2
    go_ret
    exact ⟨ret_bool hok.symm, B1⟩
  · obtain ⟨a, rfl⟩ := h1.2 (by rw [hok]; rfl)
    go_wp2
    go_ret
    exact ⟨ret_bool hok.symm, B1⟩

end Go.Proofs.Qxb6630009aFmt
