/- Seat b6630009aF: zzInsert and the law FnValidateInsertOne, walked. -/
import Derived.Test.Qxb6630009aFmtTypeWalk
namespace Go.Proofs.Qxb6630009aFmt
open Go.RowKit Go.Extern.Stop Go.Stop Go.Extern
set_option linter.unusedVariables false

theorem ret_slice {ao : Option Addr} {m n c : Nat} (h : m = n) : Ending.returned (.slice ao m c) = .returned (.slice ao n c) := by rw [h]
theorem StrsAt.take {w : World} {ao : Option Addr} {l : List ByteArray} {b off : Nat} (h : StrsAt w ao l b off) (p : Nat) : StrsAt w ao (l.take p) b off := by
  refine ⟨fun hp => h.addr (by simp at hp; omega), fun k s hk => h.cells k s ?_, fun s hs => h.short s (List.mem_of_mem_take hs)⟩
  rw [List.getElem?_take] at hk
  split at hk
  · exact hk
  · cases hk
theorem tail_cells {w : World} {a : Addr} {l : List ByteArray} {b off p c : Nat} (h : StrsAt w (some a) l b off) (hc : l.length ≤ c) :
    ∀ ad, (if c = p then some a else some (a.add p)) = some ad → ∀ j u, (strV (l.drop p))[j]? = some u → w.cell? (ad.add j) = some u := by
  intro ad had j u hu
  obtain ⟨s, hs, rfl⟩ := strV_at hu
  rw [List.getElem?_drop] at hs
  have hlt := (List.getElem?_eq_some_iff.1 hs).1
  obtain rfl := Option.some.inj (h.addr (by omega))
  rw [if_neg (by omega)] at had
  obtain rfl := Option.some.inj had
  rw [Addr.add_lit, Addr.add_lit, Nat.add_assoc]
  exact h.cells (p + j) s hs
theorem tail_none {a : Addr} {p c : Nat} {P : Prop} : (if c = p then some a else some (a.add p)) = none → P := by
  intro h
  split at h <;> cases h

set_option maxHeartbeats 1000000 in
theorem zzInsert_some (a : Addr) (n c b off p : Nat) (l : List ByteArray) (x : ByteArray) (w : World) (hl : l.length = n) (hn : n ≤ 131072) (hp : p ≤ n) (hS : StrsAt w (some a) l b off) (hnc : n ≤ c) (hcm : c ≤ maxLen) (hx : x.size ≤ maxLen) :
    Calls Tryf.prog 10 #[.slice (some a) n c, .int .i64 p, .string x] w fun e w' => e = .returned (.slice (some ⟨w.heap.size, 0, none⟩) (n + 1) (n + 1)) ∧ StrsAt w' (some ⟨w.heap.size, 0, none⟩) (l.take p ++ x :: l.drop p) w.heap.size 0 ∧ Below w.heap.size w w' := by
  unfold maxLen at hcm
  obtain ⟨i0, hi, hz0, hz1, hz2⟩ := info_parts info9
  have hle := Nat.le_refl w.heap.size
  go_enter Tryf.func10, Tryf.ntmps10
  go_wp2_with (first
      | (at_make; refine wpList_make_own _ rfl _ _ 22 rfl w.heap.size 9 i0 es 1 Tryf.underlying22 hi hz0 hz1 .i64 .i64 _ (n + 1) rfl rfl (by omega) (by rw [hz2]; omega) (by unfold maxLen; omega) (Nat.le_refl _) ?_; intro w1 hown1 hgrow1; have B1 : Below w.heap.size w w1 := (Below.refl _ _).grown hgrow1 hle (fun k hk => by cases hk); have M1 := hS.on B1)
      | (at_builtin; refine wpList_append_fits_any _ rfl (.tmp 12) (.tmp 15) 22 rfl w.heap.size 9 i0 1 Tryf.underlying22 hi hz1 w.heap.size 0 (n + 1) _ rfl hown1 (some a) p c (strV (l.take p)) rfl (by rw [strV_length, List.length_take]; omega) (by intro h; cases h) (strs_cells (M1.take p)) (strV_one _) (by omega) ?_; intro w2 hown2 hgrow2; simp only [Nat.zero_add, List.nil_append] at hown2; have B2 : Below w.heap.size w w2 := B1.grown hgrow2 B1.size (fun k hk => by cases hk; exact hle))
      | (at_builtin; refine wpList_append_fits_any _ rfl (.tmp 17) (.tmp 19) 22 rfl w.heap.size 9 i0 1 Tryf.underlying22 hi hz1 w.heap.size p (n + 1) _ rfl (hown2.alloc _) _ 1 1 (strV [x]) rfl rfl (by intro h; cases h) (one_cells (by simp)) (strV_one _) (by omega) ?_; intro w3 hown3 hgrow3; have B3 : Below w.heap.size w w3 := (B2.alloc B2.size _).grown hgrow3 (by have := B2.size; simp; omega) (fun k hk => by cases hk; exact hle); have M3 := hS.on B3)
      | (at_builtin; refine wpList_append_fits_any _ rfl (.tmp 21) (.tmp 24) 22 rfl w.heap.size 9 i0 1 Tryf.underlying22 hi hz1 w.heap.size (p + 1) (n + 1) _ rfl hown3 _ (n - p) (c - p) (strV (l.drop p)) rfl (by rw [strV_length, List.length_drop]; omega) tail_none (tail_cells M3 (by omega)) (strV_one _) (by omega) ?_; intro w4 hown4 hgrow4))
  all_goals
    have B4 : Below w.heap.size w w4 := B3.grown hgrow4 B3.size (fun k hk => by cases hk; exact hle)
    have S4 : StrsAt w4 (some ⟨w.heap.size, 0, none⟩) (l.take p ++ x :: l.drop p) w.heap.size 0 := own_strs (by simpa [strV] using hown4) (by
      intro s hs
      simp only [List.mem_append, List.mem_cons] at hs
      rcases hs with hs | rfl | hs
      · exact hS.short s (List.mem_of_mem_take hs)
      · exact hx
      · exact hS.short s (List.mem_of_mem_drop hs))
    clear hown1 hown2 hown3 hown4 hgrow1 hgrow2 hgrow3 hgrow4
    go_wp2
    go_ret
    exact ⟨ret_slice (by omega), S4, B4⟩

set_option maxHeartbeats 1000000 in
theorem zzInsert_nil (x : ByteArray) (w : World) (hx : x.size ≤ maxLen) :
    Calls Tryf.prog 10 #[.slice none 0 0, .int .i64 0, .string x] w fun e w' => e = .returned (.slice (some ⟨w.heap.size, 0, none⟩) 1 1) ∧ StrsAt w' (some ⟨w.heap.size, 0, none⟩) [x] w.heap.size 0 ∧ Below w.heap.size w w' := by
  obtain ⟨i0, hi, hz0, hz1, hz2⟩ := info_parts info9
  have hle := Nat.le_refl w.heap.size
  go_enter Tryf.func10, Tryf.ntmps10
  go_wp2_with (first
      | (at_make; refine wpList_make_own _ rfl _ _ 22 rfl w.heap.size 9 i0 es 1 Tryf.underlying22 hi hz0 hz1 .i64 .i64 _ 1 rfl rfl (by omega) (by rw [hz2]; omega) (by unfold maxLen; omega) (Nat.le_refl _) ?_; intro w1 hown1 hgrow1; have B1 : Below w.heap.size w w1 := (Below.refl _ _).grown hgrow1 hle (fun k hk => by cases hk))
      | (at_builtin; refine wpList_append_fits_any _ rfl (.tmp 12) (.tmp 15) 22 rfl w.heap.size 9 i0 1 Tryf.underlying22 hi hz1 w.heap.size 0 1 _ rfl hown1 none 0 0 [] rfl rfl (fun _ => ⟨rfl, rfl⟩) (fun ad h => by cases h) (fun u hu => by simp at hu) (by omega) ?_; intro w2 hown2 hgrow2; simp only [Nat.zero_add, List.nil_append] at hown2; have B2 : Below w.heap.size w w2 := B1.grown hgrow2 B1.size (fun k hk => by cases hk; exact hle))
      | (at_builtin; refine wpList_append_fits_any _ rfl (.tmp 17) (.tmp 19) 22 rfl w.heap.size 9 i0 1 Tryf.underlying22 hi hz1 w.heap.size 0 1 _ rfl (hown2.alloc _) _ 1 1 (strV [x]) rfl rfl (by intro h; cases h) (one_cells (by simp)) (strV_one _) (by omega) ?_; intro w3 hown3 hgrow3; simp only [Nat.zero_add, List.nil_append] at hown3; have B3 : Below w.heap.size w w3 := (B2.alloc B2.size _).grown hgrow3 (by have := B2.size; simp; omega) (fun k hk => by cases hk; exact hle))
      | (at_builtin; refine wpList_append_fits_any _ rfl (.tmp 21) (.tmp 24) 22 rfl w.heap.size 9 i0 1 Tryf.underlying22 hi hz1 w.heap.size 1 1 _ rfl hown3 none 0 0 [] rfl rfl (fun _ => ⟨rfl, rfl⟩) (fun ad h => by cases h) (fun u hu => by simp at hu) (by omega) ?_; intro w4 hown4 hgrow4))
  have B4 : Below w.heap.size w w4 := B3.grown hgrow4 B3.size (fun k hk => by cases hk; exact hle)
  have S4 : StrsAt w4 (some ⟨w.heap.size, 0, none⟩) [x] w.heap.size 0 := own_strs (by simpa using hown4) (by
    intro s hs
    simp only [List.mem_singleton] at hs
    subst hs
    exact hx)
  clear hown1 hown2 hown3 hown4 hgrow1 hgrow2 hgrow3 hgrow4
  go_wp2
  go_ret
  exact ⟨rfl, S4, B4⟩

theorem zzInsert_any (ao : Option Addr) (n c b off p : Nat) (l : List ByteArray) (x : ByteArray) (w : World) (hl : l.length = n) (hn : n ≤ 131072) (hp : p ≤ n) (h : StrsAt w ao l b off) (h0 : ao = none → n = 0 ∧ c = 0) (hnc : n ≤ c) (hcm : c ≤ maxLen) (hx : x.size ≤ maxLen) :
    Calls Tryf.prog 10 #[.slice ao n c, .int .i64 p, .string x] w fun e w' => e = .returned (.slice (some ⟨w.heap.size, 0, none⟩) (n + 1) (n + 1)) ∧ StrsAt w' (some ⟨w.heap.size, 0, none⟩) (l.take p ++ x :: l.drop p) w.heap.size 0 ∧ Below w.heap.size w w' := by
  cases ao with
  | none =>
    obtain ⟨rfl, rfl⟩ := h0 rfl
    obtain rfl : p = 0 := by omega
    obtain rfl : l = [] := List.length_eq_zero_iff.1 hl
    exact zzInsert_nil x w hx
  | some a => exact zzInsert_some a n c b off p l x w hl hn hp h hnc hcm hx

theorem badB_insert (typ : ByteArray) (ids names : List ByteArray) (id nm : ByteArray) (p q : Nat) :
    badB typ (ids.take p ++ id :: ids.drop p) (names.take q ++ nm :: names.drop q) = (badB typ ids names || !idB id || !nameB nm) := by
  have e1 : (ids.take p ++ id :: ids.drop p).any (fun s => !idB s) = (ids.any (fun s => !idB s) || !idB id) := by
    rw [List.any_append, List.any_cons]
    have : ids.any (fun s => !idB s) = ((ids.take p).any (fun s => !idB s) || (ids.drop p).any (fun s => !idB s)) := by rw [← List.any_append, List.take_append_drop]
    rw [this]
    cases (ids.take p).any (fun s => !idB s) <;> cases (ids.drop p).any (fun s => !idB s) <;> cases idB id <;> rfl
  have e2 : (names.take q ++ nm :: names.drop q).any (fun s => !nameB s) = (names.any (fun s => !nameB s) || !nameB nm) := by
    rw [List.any_append, List.any_cons]
    have : names.any (fun s => !nameB s) = ((names.take q).any (fun s => !nameB s) || (names.drop q).any (fun s => !nameB s)) := by rw [← List.any_append, List.take_append_drop]
    rw [this]
    cases (names.take q).any (fun s => !nameB s) <;> cases (names.drop q).any (fun s => !nameB s) <;> cases nameB nm <;> rfl
  rw [badB, badB, e1, e2]
  cases (setB typ && !nameB typ) <;> cases ids.any (fun s => !idB s) <;> cases names.any (fun s => !nameB s) <;> cases idB id <;> cases nameB nm <;> rfl

set_option maxHeartbeats 1000000 in
set_option maxRecDepth 100000 in
theorem insert_walk (F : Interp) (typ id nm : ByteArray) (p q : Int) (ao ao2 : Option Addr) (n c b off n2 c2 b2 off2 : Nat) (l l2 : List ByteArray) (w : World) (hF : F.answers w.tape) (ht : typ.size ≤ maxLen) (hid : id.size ≤ maxLen) (hnm : nm.size ≤ maxLen)
    (hl : l.length = n) (h : StrsAt w ao l b off) (hl2 : l2.length = n2) (h2 : StrsAt w ao2 l2 b2 off2) (h0 : ao = none → n = 0 ∧ c = 0) (h02 : ao2 = none → n2 = 0 ∧ c2 = 0) (hnc : n ≤ c) (hnc2 : n2 ≤ c2) (hcm : c ≤ maxLen) (hcm2 : c2 ≤ maxLen) :
    Calls Tryf.prog 4 #[.string typ, .slice ao n c, .slice ao2 n2 c2, .string id, .string nm, .int .i64 p, .int .i64 q] w fun e w' => e = .returned (.bool true) ∧ Below w.heap.size w w' := by
  go_enter Tryf.func4, Tryf.ntmps4
  go_wp2_with fail
  refine (zzBytesI_any typ id nm p q ao ao2 n c b off n2 c2 b2 off2 l l2 _ hl h hl2 h2).mono ?_
  rintro e w' ⟨⟨r, rfl⟩, hw⟩
  have hw' := hw.symm
  subst hw'
  clear hw
  cases r
  · go_wp2
    go_ret
    exact ⟨rfl, Below.refl _ _⟩
  go_wp2_with fail
  refine (zzBytesOK_any typ id nm ao ao2 n c b off n2 c2 b2 off2 l l2 _ hl h hl2 h2).mono ?_
  rintro e w' ⟨hr, hw⟩
  have hw' := hw.symm
  subst hw'
  clear hw
  rcases hr with rfl | ⟨rfl, hn, hn2⟩
  · go_wp2
    go_ret
    exact ⟨rfl, Below.refl _ _⟩
  by_cases hp0 : 0 ≤ p
  rotate_left
  · go_wp2
    go_ret
    exact ⟨rfl, Below.refl _ _⟩
  by_cases hpn : p ≤ n
  rotate_left
  · go_wp2
    go_ret
    exact ⟨rfl, Below.refl _ _⟩
  by_cases hq0 : 0 ≤ q
  rotate_left
  · go_wp2
    go_ret
    exact ⟨rfl, Below.refl _ _⟩
  by_cases hqn : q ≤ n2
  rotate_left
  · go_wp2
    go_ret
    exact ⟨rfl, Below.refl _ _⟩
  obtain ⟨pN, hpN⟩ := Int.eq_ofNat_of_zero_le hp0
  obtain ⟨qN, hqN⟩ := Int.eq_ofNat_of_zero_le hq0
  subst hpN
  subst hqN
  go_wp2_with fail
  refine (zzInsert_any ao n c b off pN l id w hl hn (by omega) h h0 hnc hcm hid).mono ?_
  rintro e w1 ⟨rfl, S1, B1⟩
  go_wp2_with fail
  refine (zzInsert_any ao2 n2 c2 b2 off2 qN l2 nm w1 hl2 hn2 (by omega) (h2.on B1) h02 hnc2 hcm2 hnm).mono ?_
  rintro e w2 ⟨rfl, S2, hb2⟩
  have B2 : Below w.heap.size w w2 := B1.trans (hb2.mono B1.size)
  have T2 := S1.on hb2
  clear S1
  go_wp2_with fail
  have D1 := zzBad_any F typ ao ao2 n c b off n2 c2 b2 off2 l l2 w2 (by rw [B2.tape]; exact hF) ht hl (by omega) (h.on B2) hl2 (by omega) (h2.on B2)
  obtain ⟨x, hx⟩ : ∃ x, badB typ l l2 = x := ⟨_, rfl⟩
  rw [hx] at D1
  have HX : Hid (badB typ l l2 = x) := hx
  clear hx
  refine D1.mono ?_
  clear D1
  rintro e w3 ⟨rfl, hb3⟩
  have B3 : Below w.heap.size w w3 := B2.trans (hb3.mono B2.size)
  go_wp2_with fail
  have D2 := zzBad_any F typ (some ⟨w.heap.size, 0, none⟩) (some ⟨w1.heap.size, 0, none⟩) (n + 1) (n + 1) w.heap.size 0 (n2 + 1) (n2 + 1) w1.heap.size 0 (l.take pN ++ id :: l.drop pN) (l2.take qN ++ nm :: l2.drop qN) w3 (by rw [B3.tape]; exact hF) ht
    (by simp; omega) (by omega) (T2.on hb3) (by simp; omega) (by omega) (S2.on hb3)
  rw [badB_insert, HX.out] at D2
  refine D2.mono ?_
  clear D2
  rintro e w4 ⟨rfl, hb4⟩
  have B4 : Below w.heap.size w w4 := B3.trans (hb4.mono B3.size)
  have HB4 : Hid (Below w.heap.size w w4) := B4
  clear hb2 hb3 hb4 B1 B2 B3 B4
  have HI := zzIsID_any id w4
  have HN := zzIsName_any nm w4 hnm
  obtain ⟨y, hy⟩ : ∃ y, idB id = y := ⟨_, rfl⟩
  obtain ⟨z, hz⟩ : ∃ z, nameB nm = z := ⟨_, rfl⟩
  rw [hy] at HI ⊢
  rw [hz] at HN ⊢
  clear hy hz
  cases x <;> cases y <;> cases z
  all_goals
    go_wp2_with (first | (go_at_call 8; refine HN.mono ?_; rintro e w7 ⟨rfl, hw7⟩; have hw8 := hw7.symm; subst hw8) | (go_at_call 11; refine HI.mono ?_; rintro e w7 ⟨rfl, hw7⟩; have hw8 := hw7.symm; subst hw8))
    go_ret
    exact ⟨rfl, HB4.out⟩

end Go.Proofs.Qxb6630009aFmt
