/- Seat b6630009aF: the law FnValidateTypeCheckedLikeAName, walked. -/
import Derived.Test.Qxb6630009aFmtBytes
import Derived.KernelRfl
namespace Go.Proofs.Qxb6630009aFmt
open Go.RowKit Go.Extern.Stop Go.Stop Go.Extern

abbrev es : Value := .string ⟨#[]⟩
theorem info9 : (Tryf.prog.info? 9).map (fun i => (i.zero, i.size, i.bytes)) = some (some es, 1, 16) := by kernel_rfl

def strV (l : List ByteArray) : List Value := l.map Value.string
theorem strV_length (l : List ByteArray) : (strV l).length = l.length * 1 := by simp [strV]
theorem strV_one (l : List ByteArray) : ∀ u ∈ strV l, u.oneCell' = true := by
  intro u hu
  simp only [strV, List.mem_map] at hu
  obtain ⟨s, _, rfl⟩ := hu
  rfl
theorem strV_at {l : List ByteArray} {j : Nat} {u : Value} (h : (strV l)[j]? = some u) : ∃ s, l[j]? = some s ∧ u = .string s := by
  simp only [strV, List.getElem?_map, Option.map_eq_some_iff] at h
  obtain ⟨s, h1, h2⟩ := h
  exact ⟨s, h1, h2.symm⟩
/-- What is appended lies behind its address. -/
theorem strs_cells {w : World} {ao : Option Addr} {l : List ByteArray} {b off : Nat} (h : StrsAt w ao l b off) : ∀ ad, ao = some ad → ∀ j u, (strV l)[j]? = some u → w.cell? (ad.add j) = some u := by
  intro ad had j u hu
  obtain ⟨s, hs, rfl⟩ := strV_at hu
  have hl : 0 < l.length := by have := (List.getElem?_eq_some_iff.1 hs).1; omega
  have := h.addr hl
  rw [had] at this
  obtain rfl := Option.some.inj this
  rw [Addr.add_lit]
  exact h.cells j s hs
theorem one_cells {w : World} {g : Nat} {s : ByteArray} (h : w.cell? ⟨g, 0, none⟩ = some (.string s)) : ∀ ad, some (⟨g, 0, none⟩ : Addr) = some ad → ∀ j u, (strV [s])[j]? = some u → w.cell? (ad.add j) = some u := by
  intro ad had j u hu
  obtain ⟨s', hs, rfl⟩ := strV_at hu
  obtain rfl := Option.some.inj had
  match j, hs with
  | 0, hs => simp at hs; subst hs; rw [Addr.add_lit]; exact h
  | (j + 1), hs => simp at hs
theorem own_strs {w : World} {B g cap : Nat} {l : List ByteArray} {n : Nat} (h : w.ownsRow B 9 1 (.slice (some ⟨g, 0, none⟩) n cap) n (strV l)) (hl : ∀ s ∈ l, s.size ≤ maxLen) : StrsAt w (some ⟨g, 0, none⟩) l g 0 := by
  have hn : l.length = n := by have := h.1; rw [strV_length] at this; omega
  refine ⟨fun _ => rfl, fun k s hk => ?_, hl⟩
  have hkn := (List.getElem?_eq_some_iff.1 hk).1
  rw [Nat.zero_add, h.cellAt k (by omega)]
  simp [strV, hk]

theorem es_short : (⟨#[]⟩ : ByteArray).size ≤ maxLen := Nat.zero_le _
theorem badB_moved (typ : ByteArray) (ids names : List ByteArray) (h : typ.toList.isEmpty = false) : badB typ ids names = badB ⟨#[]⟩ ids ([typ] ++ names) := by
  have e : setB ⟨#[]⟩ = false := by kernel_rfl
  have e2 : setB typ = true := by simp [setB, h]
  simp only [badB, e, e2, Bool.false_and, Bool.false_or, Bool.true_and, List.singleton_append, List.any_cons]
  cases nameB typ <;> cases ids.any (fun s => !idB s) <;> simp
theorem badB_unset (typ : ByteArray) (ids names : List ByteArray) (h : typ.toList.isEmpty = true) : badB typ ids names = badB ⟨#[]⟩ ids names := by
  have e : setB ⟨#[]⟩ = false := by kernel_rfl
  have e2 : setB typ = false := by simp [setB, h]
  simp only [badB, e, e2, Bool.false_and]
theorem badB_alone (typ : ByteArray) : badB typ [] [] = (setB typ && !nameB typ) := by simp [badB]

set_option maxHeartbeats 1000000 in
set_option maxRecDepth 100000 in
theorem type_walk (F : Interp) (typ : ByteArray) (ao ao2 : Option Addr) (n c b off n2 c2 b2 off2 : Nat) (l l2 : List ByteArray) (w : World) (hF : F.answers w.tape) (ht : typ.size ≤ maxLen) (hl : l.length = n) (h : StrsAt w ao l b off) (hl2 : l2.length = n2) (h2 : StrsAt w ao2 l2 b2 off2)
    (h02 : ao2 = none → n2 = 0 ∧ c2 = 0) :
    Calls Tryf.prog 3 #[.string typ, .slice ao n c, .slice ao2 n2 c2] w fun e w' => e = .returned (.bool true) ∧ Below w.heap.size w w' := by
  obtain ⟨i0, hi, hz0, hz1, hz2⟩ := info_parts info9
  go_enter Tryf.func3, Tryf.ntmps3
  go_wp2_with fail
  refine (zzBytesT_any typ ao ao2 n c b off n2 c2 b2 off2 l l2 _ hl h hl2 h2).mono ?_
  rintro e w' ⟨⟨r, rfl⟩, hw⟩
  have hw' := hw.symm
  subst hw'
  clear hw
  cases r
  · go_wp2
    go_ret
    exact ⟨rfl, Below.refl _ _⟩
  go_wp2_with fail
  refine (zzBytesOK_any typ ⟨#[]⟩ ⟨#[]⟩ ao ao2 n c b off n2 c2 b2 off2 l l2 _ hl h hl2 h2).mono ?_
  rintro e w' ⟨hr, hw⟩
  have hw' := hw.symm
  subst hw'
  clear hw
  rcases hr with rfl | ⟨rfl, hn, hn2⟩
  · go_wp2
    go_ret
    exact ⟨rfl, Below.refl _ _⟩
  have hle := Nat.le_refl w.heap.size
  cases he : typ.toList.isEmpty
  · go_wp2_with (first
      | (at_make; refine wpList_make_own _ rfl _ _ 22 rfl w.heap.size 9 i0 es 1 Tryf.underlying22 hi hz0 hz1 .i64 .i64 _ (n2 + 1) rfl rfl (by omega) (by rw [hz2]; omega) (by unfold maxLen; omega) (Nat.le_refl _) ?_; intro w1 hown1 hgrow1)
      | (at_builtin; refine wpList_append_fits_any _ rfl (.tmp 27) (.tmp 29) 22 rfl w.heap.size 9 i0 1 Tryf.underlying22 hi hz1 w.heap.size 0 (n2 + 1) [] rfl (hown1.alloc _) _ 1 1 (strV [typ]) rfl rfl (by intro h; cases h) (one_cells (by simp)) (strV_one _) (by omega) ?_; intro w2 hown2 hgrow2; simp only [Nat.zero_add, List.nil_append] at hown2; have B1 : Below w.heap.size w w1 := (Below.refl _ _).grown hgrow1 hle (fun k hk => by cases hk); have B2 : Below w.heap.size w w2 := (B1.alloc B1.size _).grown hgrow2 (by have := B1.size; simp; omega) (fun k hk => by cases hk; exact hle); have M2 := h2.on B2)
      | (at_builtin; refine wpList_append_fits_any _ rfl (.tmp 31) (.tmp 32) 22 rfl w.heap.size 9 i0 1 Tryf.underlying22 hi hz1 w.heap.size 1 (n2 + 1) _ rfl hown2 ao2 n2 c2 (strV l2) rfl (by rw [strV_length, hl2]) h02 (strs_cells M2) (strV_one _) (by omega) ?_; intro w3 hown3 hgrow3))
    have B3 : Below w.heap.size w w3 := B2.grown hgrow3 B2.size (fun k hk => by cases hk; exact hle)
    have S3 : StrsAt w3 (some ⟨w.heap.size, 0, none⟩) ([typ] ++ l2) w.heap.size 0 := own_strs (by simpa [strV] using hown3) (by intro s hs; simp at hs; rcases hs with rfl | hs; exact ht; exact h2.short s hs)
    have N3 : ([typ] ++ l2).length = 1 + n2 := by simp; omega
    have ST : StrsAt w3 none [] 0 0 := ⟨fun h => by simp at h, fun k s hk => by simp at hk, fun s hs => by simp at hs⟩
    have D1 := zzBad_any F typ ao ao2 n c b off n2 c2 b2 off2 l l2 w3 (by rw [B3.tape]; exact hF) ht hl (by omega) (h.on B3) hl2 (by omega) (h2.on B3)
    obtain ⟨x, hx⟩ : ∃ x, badB typ l l2 = x := ⟨_, rfl⟩
    rw [hx] at D1
    have HX : Hid (badB typ l l2 = x) := hx
    clear hx
    refine D1.mono ?_
    clear D1
    rintro e w4 ⟨rfl, hb4⟩
    have B4 : Below w.heap.size w w4 := B3.trans (hb4.mono B3.size)
    go_wp2_with fail
    have D2 := zzBad_any F ⟨#[]⟩ ao (some ⟨w.heap.size, 0, none⟩) n c b off (1 + n2) (n2 + 1) w.heap.size 0 l ([typ] ++ l2) w4 (by rw [B4.tape]; exact hF) es_short hl (by omega) (h.on B4) N3 (by omega) (S3.on hb4)
    rw [← badB_moved typ l l2 he, HX.out] at D2
    refine D2.mono ?_
    clear D2
    rintro e w5 ⟨rfl, hb5⟩
    have B5 : Below w.heap.size w w5 := B4.trans (hb5.mono B4.size)
    go_wp2_with fail
    have D3 := zzBad_any F typ none none 0 0 0 0 0 0 0 0 [] [] w5 (by rw [B5.tape]; exact hF) ht rfl (by omega) ((ST.on hb4).on hb5) rfl (by omega) ((ST.on hb4).on hb5)
    rw [badB_alone, show setB typ = true by simp [setB, he]] at D3
    refine D3.mono ?_
    clear D3
    rintro e w6 ⟨rfl, hb6⟩
    have B6 : Below w.heap.size w w6 := B5.trans (hb6.mono B5.size)
    have HB6 : Hid (Below w.heap.size w w6) := B6
    clear hb4 hb5 hb6 B4 B5 B6
    have HN := zzIsName_any typ w6 ht
    cases hnm : nameB typ
    all_goals
      rw [hnm] at HN
      cases x
      all_goals
        go_wp2_with (first | (go_at_call 8; refine HN.mono ?_; rintro e w7 ⟨rfl, hw7⟩; have hw8 := hw7.symm; subst hw8))
        go_ret
        exact ⟨rfl, HB6.out⟩
  · go_wp2_with (first
      | (at_make; refine wpList_make_own _ rfl _ _ 22 rfl w.heap.size 9 i0 es 1 Tryf.underlying22 hi hz0 hz1 .i64 .i64 _ (n2 + 1) rfl rfl (by omega) (by rw [hz2]; omega) (by unfold maxLen; omega) (Nat.le_refl _) ?_; intro w1 hown1 hgrow1; have B1 : Below w.heap.size w w1 := (Below.refl _ _).grown hgrow1 hle (fun k hk => by cases hk); have M2 := h2.on B1)
      | (at_builtin; refine wpList_append_fits_any _ rfl (.tmp 31) (.tmp 32) 22 rfl w.heap.size 9 i0 1 Tryf.underlying22 hi hz1 w.heap.size 0 (n2 + 1) _ rfl hown1 ao2 n2 c2 (strV l2) rfl (by rw [strV_length, hl2]) h02 (strs_cells M2) (strV_one _) (by omega) ?_; intro w3 hown3 hgrow3))
    have B3 : Below w.heap.size w w3 := B1.grown hgrow3 B1.size (fun k hk => by cases hk; exact hle)
    have S3 : StrsAt w3 (some ⟨w.heap.size, 0, none⟩) l2 w.heap.size 0 := own_strs (by simpa using hown3) h2.short
    have N3 : l2.length = n2 := hl2
    have ST : StrsAt w3 none [] 0 0 := ⟨fun h => by simp at h, fun k s hk => by simp at hk, fun s hs => by simp at hs⟩
    have D1 := zzBad_any F typ ao ao2 n c b off n2 c2 b2 off2 l l2 w3 (by rw [B3.tape]; exact hF) ht hl (by omega) (h.on B3) hl2 (by omega) (h2.on B3)
    obtain ⟨x, hx⟩ : ∃ x, badB typ l l2 = x := ⟨_, rfl⟩
    rw [hx] at D1
    have HX : Hid (badB typ l l2 = x) := hx
    clear hx
    refine D1.mono ?_
    clear D1
    rintro e w4 ⟨rfl, hb4⟩
    have B4 : Below w.heap.size w w4 := B3.trans (hb4.mono B3.size)
    go_wp2_with fail
    have D2 := zzBad_any F ⟨#[]⟩ ao (some ⟨w.heap.size, 0, none⟩) n c b off n2 (n2 + 1) w.heap.size 0 l l2 w4 (by rw [B4.tape]; exact hF) es_short hl (by omega) (h.on B4) N3 (by omega) (S3.on hb4)
    rw [← badB_unset typ l l2 he, HX.out] at D2
    refine D2.mono ?_
    clear D2
    rintro e w5 ⟨rfl, hb5⟩
    have B5 : Below w.heap.size w w5 := B4.trans (hb5.mono B4.size)
    go_wp2_with fail
    have D3 := zzBad_any F typ none none 0 0 0 0 0 0 0 0 [] [] w5 (by rw [B5.tape]; exact hF) ht rfl (by omega) ((ST.on hb4).on hb5) rfl (by omega) ((ST.on hb4).on hb5)
    rw [badB_alone, show setB typ = false by simp [setB, he]] at D3
    refine D3.mono ?_
    clear D3
    rintro e w6 ⟨rfl, hb6⟩
    have B6 : Below w.heap.size w w6 := B5.trans (hb6.mono B5.size)
    have HB6 : Hid (Below w.heap.size w w6) := B6
    clear hb4 hb5 hb6 B4 B5 B6
    cases x
    all_goals
      go_wp2
      go_ret
      exact ⟨rfl, HB6.out⟩

end Go.Proofs.Qxb6630009aFmt
