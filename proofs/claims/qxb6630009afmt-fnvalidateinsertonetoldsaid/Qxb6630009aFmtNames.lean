/- Seat b6630009aF: CheckName, checkNameIfSet, checkID; zzIsName, zzIsID. -/
import Derived.Test.Qxb6630009aFmtChars
namespace Go.Proofs.Qxb6630009aFmt
open Go.RowKit Go.Extern.Stop Go.Stop Go.Extern

/-- What a check hands back: nil where it is fine, an error of fmt.Errorf's make where not. -/
def ErrIf (ok : Bool) (e : Ending) : Prop := (ok = true → e = .returned .nilIface) ∧ (ok = false → ∃ a : Addr, e = .returned (.iface 41 (.pointer (some a))))

theorem errIf_bad {ok : Bool} (h : ok = false) (a : Addr) : ErrIf ok (.returned (.iface 41 (.pointer (some a)))) := ⟨fun h' => by (rw [h] at h'; cases h'), fun _ => ⟨a, rfl⟩⟩
theorem errIf_ok {ok : Bool} (h : ok = true) : ErrIf ok (.returned .nilIface) := ⟨fun _ => rfl, fun h' => by (rw [h] at h'; cases h')⟩

theorem headB_cons (s : ByteArray) (h : 0 < s.size) : headB (bys s) = !dig ((s[0].toNat : Nat) : Int) := by
  have := bys_at s 0 h
  cases hb : bys s with
  | nil => rw [hb] at this; simp at this
  | cons c cs => rw [hb] at this; simp at this; simp [headB, this]

/-- 'ok' so far. -/
def okTo (s : ByteArray) (k : Nat) : Bool := headB (bys s) && ((bys s).take k).all nch
theorem okTo_zero (s : ByteArray) : okTo s 0 = headB (bys s) := by simp [okTo]
theorem okTo_succ {s : ByteArray} {k : Nat} (h : k < s.size) : okTo s (k + 1) = (okTo s k && nch ((s[k].toNat : Nat) : Int)) := by
  rw [okTo, all_take (bys_at s k h), okTo, Bool.and_assoc]
theorem okTo_false {s : ByteArray} {k : Nat} (h : okTo s k = false) : nameB s = false := by
  unfold okTo at h
  unfold nameB
  cases h1 : headB (bys s)
  · rfl
  · rw [h1] at h
    simp only [Bool.true_and] at h ⊢
    exact all_false h
theorem okTo_full {s : ByteArray} {k : Nat} (h : s.size ≤ k) : okTo s k = nameB s := by
  unfold okTo nameB
  rw [all_full (by rw [bys_length]; exact h)]

theorem nch_of {c : Int} {a b d : Bool} (h1 : ltr c = a) (h2 : dig c = b) (h3 : (c == 95) = d) : nch c = (a || b || d) := by rw [nch, h1, h2, h3]

set_option maxHeartbeats 1000000 in
theorem checkName_any (F : Interp) (part s : ByteArray) (w : World) (hF : F.answers w.tape) (hs : s.size ≤ maxLen) :
    Calls Tryf.prog 16 #[.string part, .string s] w fun e w' => ErrIf (nameB s) e ∧ Below w.heap.size w w' := by
  unfold maxLen at hs
  by_cases hpos : 0 < s.size
  · have hemp : s.toList.isEmpty = false := by
      rw [← bys_empty]
      cases hb : bys s with
      | nil => have := bys_length s; rw [hb] at this; simp at this; omega
      | cons c cs => rfl
    have HH : Hid (headB (bys s) = !dig ((s[0].toNat : Nat) : Int)) := headB_cons s hpos
    go_enter Tryf.func16, Tryf.ntmps16
    go_wp2_with (first | (go_at_call 18; refine (isDigit_any _ _).mono ?_; rintro e w' ⟨rfl, rfl⟩))
    go_loop [5, 6] (fun o i => ∃ (k : Nat), k ≤ s.size ∧ i = .int .i64 k ∧ o = .bool (okTo s k)) (fun _ i => s.size - (intOf i).toNat)
    case atStart => exact ⟨0, Nat.zero_le _, rfl, by rw [okTo_zero, HH.out]⟩
    case round =>
      obtain ⟨k, hk, rfl, rfl⟩ := hrel
      cases hok : okTo s k
      · have HB : Hid (nameB s = false) := okTo_false hok
        go_wp2_with (first | (go_at_call 20; refine (errorf2 F _ part s _ _ (by exact hF) (fun _ => by kernel_rfl) (by go_simp) (by go_simp)).mono ?_; rintro e w2 ⟨rfl, hb2⟩))
        go_ret
        exact ⟨errIf_bad HB.out _, ((Below.refl _ _).alloc (Nat.le_refl _) _).trans (hb2.mono (by simp))⟩
      · by_cases hlt : k < s.size
        · have HS : Hid (okTo s (k + 1) = (okTo s k && nch ((s[k].toNat : Nat) : Int))) := okTo_succ hlt
          cases h1 : ltr ((s[k].toNat : Nat) : Int)
          · cases h2 : dig ((s[k].toNat : Nat) : Int)
            · cases h3 : (((s[k].toNat : Nat) : Int) == 95)
              ·
                have HC : Hid (okTo s (k + 1) = false) := by
                  show okTo s (k + 1) = false
                  rw [HS.out, hok, nch]
                  simp [h1, h2, h3]
                go_wp2_with (first | (go_at_call 18; refine (isDigit_any _ _).mono ?_; rintro e w' ⟨rfl, rfl⟩) | (go_at_call 19; refine (isLetter_any _ _).mono ?_; rintro e w' ⟨rfl, rfl⟩))
                go_round
                case rel => exact ⟨k + 1, by omega, by go_num, by rw [HC.out]⟩
                case measure => simp [intOf]; omega
              ·
                have HC : Hid (okTo s (k + 1) = true) := by
                  show okTo s (k + 1) = true
                  rw [HS.out, hok, nch]
                  simp [h1, h2, h3]
                go_wp2_with (first | (go_at_call 18; refine (isDigit_any _ _).mono ?_; rintro e w' ⟨rfl, rfl⟩) | (go_at_call 19; refine (isLetter_any _ _).mono ?_; rintro e w' ⟨rfl, rfl⟩))
                go_round
                case rel => exact ⟨k + 1, by omega, by go_num, by rw [HC.out]⟩
                case measure => simp [intOf]; omega
            ·
              have HC : Hid (okTo s (k + 1) = true) := by
                show okTo s (k + 1) = true
                rw [HS.out, hok, nch]
                simp [h1, h2]
              go_wp2_with (first | (go_at_call 18; refine (isDigit_any _ _).mono ?_; rintro e w' ⟨rfl, rfl⟩) | (go_at_call 19; refine (isLetter_any _ _).mono ?_; rintro e w' ⟨rfl, rfl⟩))
              go_round
              case rel => exact ⟨k + 1, by omega, by go_num, by rw [HC.out]⟩
              case measure => simp [intOf]; omega
          ·
            have HC : Hid (okTo s (k + 1) = true) := by
              show okTo s (k + 1) = true
              rw [HS.out, hok, nch]
              simp [h1]
            go_wp2_with (first | (go_at_call 18; refine (isDigit_any _ _).mono ?_; rintro e w' ⟨rfl, rfl⟩) | (go_at_call 19; refine (isLetter_any _ _).mono ?_; rintro e w' ⟨rfl, rfl⟩))
            go_round
            case rel => exact ⟨k + 1, by omega, by go_num, by rw [HC.out]⟩
            case measure => simp [intOf]; omega
        · have HB : Hid (nameB s = true) := by rw [← okTo_full (by omega : s.size ≤ k)]; exact hok
          go_wp2
          go_ret
          exact ⟨errIf_ok HB.out, Below.refl _ _⟩
  · have hz : s.toList.isEmpty = true := by
      rw [← bys_empty]
      cases hb : bys s with
      | nil => rfl
      | cons c cs => have := bys_length s; rw [hb] at this; simp at this; omega
    have HB : Hid (nameB s = false) := by
      have : bys s = [] := List.isEmpty_iff.1 ((bys_empty s).trans hz)
      show nameB s = false
      simp [nameB, this, headB]
    go_enter Tryf.func16, Tryf.ntmps16
    go_wp2
    refine wp_loop_rounds 1 ?_
    rw [rounds_succ]
    go_wp2_with (first | (go_at_call 20; refine (errorf2 F _ part s _ _ (by exact hF) (fun _ => by kernel_rfl) (by go_simp) (by go_simp)).mono ?_; rintro e w2 ⟨rfl, hb2⟩))
    go_ret
    exact ⟨errIf_bad HB.out _, ((Below.refl _ _).alloc (Nat.le_refl _) _).trans (hb2.mono (by simp))⟩

set_option maxHeartbeats 400000 in
theorem checkNameIfSet_any (F : Interp) (part s : ByteArray) (w : World) (hF : F.answers w.tape) (hs : s.size ≤ maxLen) :
    Calls Tryf.prog 21 #[.string part, .string s] w fun e w' => ErrIf (!(setB s && !nameB s)) e ∧ Below w.heap.size w w' := by
  cases he : s.toList.isEmpty
  · have HB : Hid (setB s = true) := by show setB s = true; simp [setB, he]
    go_enter Tryf.func21, Tryf.ntmps21
    go_wp2_with fail
    refine (checkName_any F part s w hF hs).mono ?_
    rintro e w1 ⟨h1, hb1⟩
    cases hn : nameB s
    · obtain ⟨a, rfl⟩ := h1.2 hn
      go_wp2
      go_ret
      exact ⟨errIf_bad (by rw [HB.out, hn]; rfl) _, hb1⟩
    · obtain rfl := h1.1 hn
      go_wp2
      go_ret
      exact ⟨errIf_ok (by rw [HB.out, hn]; rfl), hb1⟩
  · have HB : Hid (setB s = false) := by show setB s = false; simp [setB, he]
    go_enter Tryf.func21, Tryf.ntmps21
    go_wp2
    go_ret
    exact ⟨errIf_ok (by rw [HB.out]; simp), Below.refl _ _⟩

/-- An id's head: not empty, at most 128 bytes. -/
def headI (s : ByteArray) : Bool := !(bys s).isEmpty && decide ((bys s).length ≤ 128)
def okI (s : ByteArray) (k : Nat) : Bool := headI s && ((bys s).take k).all ich
theorem okI_zero (s : ByteArray) : okI s 0 = headI s := by simp [okI]
theorem okI_succ {s : ByteArray} {k : Nat} (h : k < s.size) : okI s (k + 1) = (okI s k && ich ((s[k].toNat : Nat) : Int)) := by
  rw [okI, all_take (bys_at s k h), okI, Bool.and_assoc]
theorem okI_false {s : ByteArray} {k : Nat} (h : okI s k = false) : idB s = false := by
  unfold okI at h
  unfold idB
  show (headI s && (bys s).all ich) = false
  cases h1 : headI s
  · rfl
  · rw [h1] at h
    simp only [Bool.true_and] at h ⊢
    exact all_false h
theorem okI_full {s : ByteArray} {k : Nat} (h : s.size ≤ k) : okI s k = idB s := by
  unfold okI
  rw [all_full (by rw [bys_length]; exact h)]
  rfl
theorem headI_eq {s : ByteArray} (he : s.toList.isEmpty = false) : headI s = decide (s.size ≤ 128) := by
  rw [headI, bys_empty, he, bys_length]; rfl
theorem headI_empty {s : ByteArray} (he : s.toList.isEmpty = true) : headI s = false := by
  rw [headI, bys_empty, he]; rfl

set_option maxHeartbeats 1000000 in
theorem checkID_any (F : Interp) (part s : ByteArray) (w : World) (hF : F.answers w.tape) (hs : s.size ≤ maxLen) :
    Calls Tryf.prog 22 #[.string part, .string s] w fun e w' => ErrIf (idB s) e ∧ Below w.heap.size w w' := by
  unfold maxLen at hs
  cases he : s.toList.isEmpty
  · by_cases h128 : s.size ≤ 128
    · have HH : Hid (headI s = true) := (headI_eq he).trans (decide_eq_true h128)
      go_enter Tryf.func22, Tryf.ntmps22
      go_wp2
      go_loop [5, 6] (fun o i => ∃ (k : Nat), k ≤ s.size ∧ i = .int .i64 k ∧ o = .bool (okI s k)) (fun _ i => s.size - (intOf i).toNat)
      case atStart => exact ⟨0, Nat.zero_le _, rfl, by rw [okI_zero, HH.out]; simp; omega⟩
      case round =>
        obtain ⟨k, hk, rfl, rfl⟩ := hrel
        cases hok : okI s k
        · have HB : Hid (idB s = false) := okI_false hok
          go_wp2_with (first | (go_at_call 20; refine (errorf3 F _ part s 128 _ _ (by exact hF) (fun _ => by kernel_rfl) (by go_simp) (by go_simp) (by go_simp)).mono ?_; rintro e w2 ⟨rfl, hb2⟩))
          go_ret
          exact ⟨errIf_bad HB.out _, ((Below.refl _ _).alloc (Nat.le_refl _) _).trans (hb2.mono (by simp))⟩
        · by_cases hlt : k < s.size
          · have HS : Hid (okI s (k + 1) = (okI s k && ich ((s[k].toNat : Nat) : Int))) := okI_succ hlt
            cases h1 : ltr ((s[k].toNat : Nat) : Int)
            · cases h2 : dig ((s[k].toNat : Nat) : Int)
              · cases h3 : (((s[k].toNat : Nat) : Int) == 95)
                · cases h4 : (((s[k].toNat : Nat) : Int) == 45)
                  · cases h5 : (((s[k].toNat : Nat) : Int) == 46)
                    ·
                      have HC : Hid (okI s (k + 1) = false) := by
                        show okI s (k + 1) = false
                        rw [HS.out, hok, ich]
                        simp [h1, h2, h3, h4, h5]
                      go_wp2_with (first | (go_at_call 18; refine (isDigit_any _ _).mono ?_; rintro e w' ⟨rfl, rfl⟩) | (go_at_call 19; refine (isLetter_any _ _).mono ?_; rintro e w' ⟨rfl, rfl⟩))
                      go_round
                      case rel => exact ⟨k + 1, by omega, by go_num, by rw [HC.out]⟩
                      case measure => simp [intOf]; omega
                    ·
                      have HC : Hid (okI s (k + 1) = true) := by
                        show okI s (k + 1) = true
                        rw [HS.out, hok, ich]
                        simp [h1, h2, h3, h4, h5]
                      go_wp2_with (first | (go_at_call 18; refine (isDigit_any _ _).mono ?_; rintro e w' ⟨rfl, rfl⟩) | (go_at_call 19; refine (isLetter_any _ _).mono ?_; rintro e w' ⟨rfl, rfl⟩))
                      go_round
                      case rel => exact ⟨k + 1, by omega, by go_num, by rw [HC.out]⟩
                      case measure => simp [intOf]; omega
                  ·
                    have HC : Hid (okI s (k + 1) = true) := by
                      show okI s (k + 1) = true
                      rw [HS.out, hok, ich]
                      simp [h1, h2, h3, h4]
                    go_wp2_with (first | (go_at_call 18; refine (isDigit_any _ _).mono ?_; rintro e w' ⟨rfl, rfl⟩) | (go_at_call 19; refine (isLetter_any _ _).mono ?_; rintro e w' ⟨rfl, rfl⟩))
                    go_round
                    case rel => exact ⟨k + 1, by omega, by go_num, by rw [HC.out]⟩
                    case measure => simp [intOf]; omega
                ·
                  have HC : Hid (okI s (k + 1) = true) := by
                    show okI s (k + 1) = true
                    rw [HS.out, hok, ich]
                    simp [h1, h2, h3]
                  go_wp2_with (first | (go_at_call 18; refine (isDigit_any _ _).mono ?_; rintro e w' ⟨rfl, rfl⟩) | (go_at_call 19; refine (isLetter_any _ _).mono ?_; rintro e w' ⟨rfl, rfl⟩))
                  go_round
                  case rel => exact ⟨k + 1, by omega, by go_num, by rw [HC.out]⟩
                  case measure => simp [intOf]; omega
              ·
                have HC : Hid (okI s (k + 1) = true) := by
                  show okI s (k + 1) = true
                  rw [HS.out, hok, ich]
                  simp [h1, h2]
                go_wp2_with (first | (go_at_call 18; refine (isDigit_any _ _).mono ?_; rintro e w' ⟨rfl, rfl⟩) | (go_at_call 19; refine (isLetter_any _ _).mono ?_; rintro e w' ⟨rfl, rfl⟩))
                go_round
                case rel => exact ⟨k + 1, by omega, by go_num, by rw [HC.out]⟩
                case measure => simp [intOf]; omega
            ·
              have HC : Hid (okI s (k + 1) = true) := by
                show okI s (k + 1) = true
                rw [HS.out, hok, ich]
                simp [h1]
              go_wp2_with (first | (go_at_call 18; refine (isDigit_any _ _).mono ?_; rintro e w' ⟨rfl, rfl⟩) | (go_at_call 19; refine (isLetter_any _ _).mono ?_; rintro e w' ⟨rfl, rfl⟩))
              go_round
              case rel => exact ⟨k + 1, by omega, by go_num, by rw [HC.out]⟩
              case measure => simp [intOf]; omega
          · have HB : Hid (idB s = true) := by rw [← okI_full (by omega : s.size ≤ k)]; exact hok
            go_wp2
            go_ret
            exact ⟨errIf_ok HB.out, Below.refl _ _⟩
    · have HB : Hid (idB s = false) := okI_false (k := 0) (by rw [okI_zero, headI_eq he]; simp; omega)
      go_enter Tryf.func22, Tryf.ntmps22
      go_wp2
      refine wp_loop_rounds 1 ?_
      rw [rounds_succ]
      go_wp2_with (first | (go_at_call 20; refine (errorf3 F _ part s 128 _ _ (by exact hF) (fun _ => by kernel_rfl) (by go_simp) (by go_simp) (by go_simp)).mono ?_; rintro e w2 ⟨rfl, hb2⟩))
      go_ret
      exact ⟨errIf_bad HB.out _, ((Below.refl _ _).alloc (Nat.le_refl _) _).trans (hb2.mono (by simp))⟩
  · have HB : Hid (idB s = false) := okI_false (k := 0) (by rw [okI_zero, headI_empty he])
    go_enter Tryf.func22, Tryf.ntmps22
    go_wp2
    refine wp_loop_rounds 1 ?_
    rw [rounds_succ]
    go_wp2_with (first | (go_at_call 20; refine (errorf3 F _ part s 128 _ _ (by exact hF) (fun _ => by kernel_rfl) (by go_simp) (by go_simp) (by go_simp)).mono ?_; rintro e w2 ⟨rfl, hb2⟩))
    go_ret
    exact ⟨errIf_bad HB.out _, ((Below.refl _ _).alloc (Nat.le_refl _) _).trans (hb2.mono (by simp))⟩

theorem byte_le (s : ByteArray) (k : Nat) (h : k < s.size) : 0 ≤ ((s[k].toNat : Nat) : Int) ∧ ((s[k].toNat : Nat) : Int) ≤ 255 := by
  have := s[k].toNat_lt
  omega
theorem all_true_false {l : List Int} {k : Nat} {c : Int} {f : Int → Bool} (h : l[k]? = some c) (hf : f c = false) : l.all f = false := by
  have : (l.take (k + 1)).all f = false := by rw [all_take h, hf, Bool.and_false]
  exact all_false this

set_option maxHeartbeats 1000000 in
theorem zzIsName_any (s : ByteArray) (w : World) (hs : s.size ≤ maxLen) :
    Calls Tryf.prog 8 #[.string s] w fun e w' => e = .returned (.bool (nameB s)) ∧ w' = w := by
  unfold maxLen at hs
  by_cases hpos : 0 < s.size
  · have hne : ((s.size : Int) == 0) = false := beq_eq_false_iff_ne.2 (by omega)
    have b0 := byte_le s 0 hpos
    cases hd : dig ((s[0].toNat : Nat) : Int)
    · have HH : Hid (headB (bys s) = true) := (headB_cons s hpos).trans (by rw [hd]; rfl)
      go_enter Tryf.func8, Tryf.ntmps8
      go_wp2_with (first | (go_at_call 13; refine (zzDigit_any _ _).mono ?_; rintro e w' ⟨rfl, rfl⟩))
      go_loop [3] (fun i => ∃ (k : Nat), k ≤ s.size ∧ i = .int .i64 k ∧ ((bys s).take k).all nch = true) (fun i => s.size - (intOf i).toNat)
      case atStart => exact ⟨0, Nat.zero_le _, rfl, by simp⟩
      case round =>
        obtain ⟨k, hk, rfl, ha⟩ := hrel
        have HA : Hid (((bys s).take k).all nch = true) := ha
        clear ha
        by_cases hlt : k < s.size
        · have bk := byte_le s k hlt
          have HS : Hid (((bys s).take (k + 1)).all nch = (((bys s).take k).all nch && nch ((s[k].toNat : Nat) : Int))) := all_take (bys_at s k hlt)
          cases h1 : ltr ((s[k].toNat : Nat) : Int)
          · cases h2 : dig ((s[k].toNat : Nat) : Int)
            · cases h3 : (((s[k].toNat : Nat) : Int) == 95)
              · have HB : Hid (nameB s = false) := by
                  show nameB s = false
                  rw [nameB, all_true_false (bys_at s k hlt) (by simp [nch, h1, h2, h3]), Bool.and_false]
                go_wp2_with (first | (go_at_call 13; refine (zzDigit_any _ _).mono ?_; rintro e w' ⟨rfl, rfl⟩) | (go_at_call 14; refine (zzFold_any _ bk.1 bk.2 _).mono ?_; rintro e w' ⟨rfl, rfl⟩))
                go_ret
                exact ⟨ret_bool HB.out.symm, rfl⟩
              ·
                have HC : Hid (((bys s).take (k + 1)).all nch = true) := by
                  show ((bys s).take (k + 1)).all nch = true
                  rw [HS.out, HA.out, nch]
                  simp [h1, h2, h3]
                go_wp2_with (first | (go_at_call 13; refine (zzDigit_any _ _).mono ?_; rintro e w' ⟨rfl, rfl⟩) | (go_at_call 14; refine (zzFold_any _ bk.1 bk.2 _).mono ?_; rintro e w' ⟨rfl, rfl⟩))
                go_round
                case rel => exact ⟨k + 1, by omega, by go_num, HC.out⟩
                case measure => simp [intOf]; omega
            ·
              have HC : Hid (((bys s).take (k + 1)).all nch = true) := by
                show ((bys s).take (k + 1)).all nch = true
                rw [HS.out, HA.out, nch]
                simp [h1, h2]
              go_wp2_with (first | (go_at_call 13; refine (zzDigit_any _ _).mono ?_; rintro e w' ⟨rfl, rfl⟩) | (go_at_call 14; refine (zzFold_any _ bk.1 bk.2 _).mono ?_; rintro e w' ⟨rfl, rfl⟩))
              go_round
              case rel => exact ⟨k + 1, by omega, by go_num, HC.out⟩
              case measure => simp [intOf]; omega
          ·
            have HC : Hid (((bys s).take (k + 1)).all nch = true) := by
              show ((bys s).take (k + 1)).all nch = true
              rw [HS.out, HA.out, nch]
              simp [h1]
            go_wp2_with (first | (go_at_call 13; refine (zzDigit_any _ _).mono ?_; rintro e w' ⟨rfl, rfl⟩) | (go_at_call 14; refine (zzFold_any _ bk.1 bk.2 _).mono ?_; rintro e w' ⟨rfl, rfl⟩))
            go_round
            case rel => exact ⟨k + 1, by omega, by go_num, HC.out⟩
            case measure => simp [intOf]; omega
        · have HB : Hid (nameB s = true) := by
            show nameB s = true
            rw [nameB, HH.out, ← all_full (k := k) (by rw [bys_length]; omega), HA.out]
            rfl
          go_wp2
          go_ret
          exact ⟨ret_bool HB.out.symm, rfl⟩
    · have HB : Hid (nameB s = false) := by
        show nameB s = false
        rw [nameB, headB_cons s hpos, hd]
        rfl
      go_enter Tryf.func8, Tryf.ntmps8
      go_wp2_with (first | (go_at_call 13; refine (zzDigit_any _ _).mono ?_; rintro e w' ⟨rfl, rfl⟩))
      go_ret
      exact ⟨ret_bool HB.out.symm, rfl⟩
  · have hz : ((s.size : Int) == 0) = true := beq_iff_eq.2 (by omega)
    have HB : Hid (nameB s = false) := by
      show nameB s = false
      have : bys s = [] := List.length_eq_zero_iff.1 (by rw [bys_length]; omega)
      rw [nameB, this]
      rfl
    go_enter Tryf.func8, Tryf.ntmps8
    go_wp2
    go_ret
    exact ⟨ret_bool HB.out.symm, rfl⟩

set_option maxHeartbeats 1000000 in
theorem zzIsID_any (s : ByteArray) (w : World) :
    Calls Tryf.prog 11 #[.string s] w fun e w' => e = .returned (.bool (idB s)) ∧ w' = w := by
  by_cases hpos : 0 < s.size
  · have hne : ((s.size : Int) == 0) = false := beq_eq_false_iff_ne.2 (by omega)
    have he : s.toList.isEmpty = false := by
      rw [← bys_empty]
      cases hb : bys s with
      | nil => have := bys_length s; rw [hb] at this; simp at this; omega
      | cons c cs => rfl
    by_cases h128 : s.size ≤ 128
    · have HH : Hid (headI s = true) := (headI_eq he).trans (decide_eq_true h128)
      go_enter Tryf.func11, Tryf.ntmps11
      go_wp2
      go_loop [3] (fun i => ∃ (k : Nat), k ≤ s.size ∧ i = .int .i64 k ∧ ((bys s).take k).all ich = true) (fun i => s.size - (intOf i).toNat)
      case atStart => exact ⟨0, Nat.zero_le _, rfl, by simp⟩
      case round =>
        obtain ⟨k, hk, rfl, ha⟩ := hrel
        have HA : Hid (((bys s).take k).all ich = true) := ha
        clear ha
        by_cases hlt : k < s.size
        · have bk := byte_le s k hlt
          have HS : Hid (((bys s).take (k + 1)).all ich = (((bys s).take k).all ich && ich ((s[k].toNat : Nat) : Int))) := all_take (bys_at s k hlt)
          cases h1 : ltr ((s[k].toNat : Nat) : Int)
          · cases h2 : dig ((s[k].toNat : Nat) : Int)
            · cases h3 : (((s[k].toNat : Nat) : Int) == 95)
              · cases h4 : (((s[k].toNat : Nat) : Int) == 45)
                · cases h5 : (((s[k].toNat : Nat) : Int) == 46)
                  · have HB : Hid (idB s = false) := by
                      show idB s = false
                      rw [idB, all_true_false (bys_at s k hlt) (by simp [ich, h1, h2, h3, h4, h5]), Bool.and_false]
                    go_wp2_with (first | (go_at_call 13; refine (zzDigit_any _ _).mono ?_; rintro e w' ⟨rfl, rfl⟩) | (go_at_call 14; refine (zzFold_any _ bk.1 bk.2 _).mono ?_; rintro e w' ⟨rfl, rfl⟩))
                    go_ret
                    exact ⟨ret_bool HB.out.symm, rfl⟩
                  ·
                    have HC : Hid (((bys s).take (k + 1)).all ich = true) := by
                      show ((bys s).take (k + 1)).all ich = true
                      rw [HS.out, HA.out, ich]
                      simp [h1, h2, h3, h4, h5]
                    go_wp2_with (first | (go_at_call 13; refine (zzDigit_any _ _).mono ?_; rintro e w' ⟨rfl, rfl⟩) | (go_at_call 14; refine (zzFold_any _ bk.1 bk.2 _).mono ?_; rintro e w' ⟨rfl, rfl⟩))
                    go_round
                    case rel => exact ⟨k + 1, by omega, by go_num, HC.out⟩
                    case measure => simp [intOf]; omega
                ·
                  have HC : Hid (((bys s).take (k + 1)).all ich = true) := by
                    show ((bys s).take (k + 1)).all ich = true
                    rw [HS.out, HA.out, ich]
                    simp [h1, h2, h3, h4]
                  go_wp2_with (first | (go_at_call 13; refine (zzDigit_any _ _).mono ?_; rintro e w' ⟨rfl, rfl⟩) | (go_at_call 14; refine (zzFold_any _ bk.1 bk.2 _).mono ?_; rintro e w' ⟨rfl, rfl⟩))
                  go_round
                  case rel => exact ⟨k + 1, by omega, by go_num, HC.out⟩
                  case measure => simp [intOf]; omega
              ·
                have HC : Hid (((bys s).take (k + 1)).all ich = true) := by
                  show ((bys s).take (k + 1)).all ich = true
                  rw [HS.out, HA.out, ich]
                  simp [h1, h2, h3]
                go_wp2_with (first | (go_at_call 13; refine (zzDigit_any _ _).mono ?_; rintro e w' ⟨rfl, rfl⟩) | (go_at_call 14; refine (zzFold_any _ bk.1 bk.2 _).mono ?_; rintro e w' ⟨rfl, rfl⟩))
                go_round
                case rel => exact ⟨k + 1, by omega, by go_num, HC.out⟩
                case measure => simp [intOf]; omega
            ·
              have HC : Hid (((bys s).take (k + 1)).all ich = true) := by
                show ((bys s).take (k + 1)).all ich = true
                rw [HS.out, HA.out, ich]
                simp [h1, h2]
              go_wp2_with (first | (go_at_call 13; refine (zzDigit_any _ _).mono ?_; rintro e w' ⟨rfl, rfl⟩) | (go_at_call 14; refine (zzFold_any _ bk.1 bk.2 _).mono ?_; rintro e w' ⟨rfl, rfl⟩))
              go_round
              case rel => exact ⟨k + 1, by omega, by go_num, HC.out⟩
              case measure => simp [intOf]; omega
          ·
            have HC : Hid (((bys s).take (k + 1)).all ich = true) := by
              show ((bys s).take (k + 1)).all ich = true
              rw [HS.out, HA.out, ich]
              simp [h1]
            go_wp2_with (first | (go_at_call 13; refine (zzDigit_any _ _).mono ?_; rintro e w' ⟨rfl, rfl⟩) | (go_at_call 14; refine (zzFold_any _ bk.1 bk.2 _).mono ?_; rintro e w' ⟨rfl, rfl⟩))
            go_round
            case rel => exact ⟨k + 1, by omega, by go_num, HC.out⟩
            case measure => simp [intOf]; omega
        · have HB : Hid (idB s = true) := by
            show idB s = true
            rw [← okI_full (k := k) (by omega : s.size ≤ k), okI, HH.out, HA.out]
            rfl
          go_wp2
          go_ret
          exact ⟨ret_bool HB.out.symm, rfl⟩
    · have HB : Hid (idB s = false) := okI_false (k := 0) (by rw [okI_zero, headI_eq he]; simp; omega)
      go_enter Tryf.func11, Tryf.ntmps11
      go_wp2
      go_ret
      exact ⟨ret_bool HB.out.symm, rfl⟩
  · have hz : ((s.size : Int) == 0) = true := beq_iff_eq.2 (by omega)
    have HB : Hid (idB s = false) := by
      show idB s = false
      have : bys s = [] := List.length_eq_zero_iff.1 (by rw [bys_length]; omega)
      rw [idB, this]
      rfl
    go_enter Tryf.func11, Tryf.ntmps11
    go_wp2
    go_ret
    exact ⟨ret_bool HB.out.symm, rfl⟩

end Go.Proofs.Qxb6630009aFmt
