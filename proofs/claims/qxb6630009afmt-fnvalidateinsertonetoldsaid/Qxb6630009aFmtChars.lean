/- Seat b6630009aF: isDigit, isLetter, zzDigit, zzFoldedLetter; zzIsName, zzIsID; CheckName, checkNameIfSet, checkID. -/
import Derived.Test.Qxb6630009aFmtFacts
import Derived.Test.Qxb6630009aFmtPlain
namespace Go.Proofs.Qxb6630009aFmt
open Go.RowKit Go.Extern.Stop Go.Stop Go.Extern

theorem ret_bool {a b : Bool} (h : a = b) : Ending.returned (.bool a) = .returned (.bool b) := by rw [h]

set_option maxHeartbeats 400000 in
theorem isDigit_any (c : Int) (w : World) : Calls Tryf.prog 18 #[.int .u8 c] w fun e w' => e = .returned (.bool (dig c)) ∧ w' = w := by
  by_cases h1 : 48 ≤ c
  · go_enter Tryf.func18, Tryf.ntmps18
    go_wp2
    go_ret
    exact ⟨ret_bool (by simp [dig, h1]), rfl⟩
  · go_enter Tryf.func18, Tryf.ntmps18
    go_wp2
    go_ret
    exact ⟨ret_bool (by simp [dig]; omega), rfl⟩

set_option maxHeartbeats 400000 in
theorem zzDigit_any (c : Int) (w : World) : Calls Tryf.prog 13 #[.int .u8 c] w fun e w' => e = .returned (.bool (dig c)) ∧ w' = w := by
  by_cases h1 : 48 ≤ c
  · go_enter Tryf.func13, Tryf.ntmps13
    go_wp2
    go_ret
    exact ⟨ret_bool (by simp [dig, h1]), rfl⟩
  · go_enter Tryf.func13, Tryf.ntmps13
    go_wp2
    go_ret
    exact ⟨ret_bool (by simp [dig]; omega), rfl⟩

theorem ltr_t {c : Int} (h : (97 ≤ c ∧ c ≤ 122) ∨ (65 ≤ c ∧ c ≤ 90)) : ltr c = true := by
  rcases h with ⟨h1, h2⟩ | ⟨h1, h2⟩ <;> simp [ltr, h1, h2]
theorem ltr_f {c : Int} (h : ¬ ((97 ≤ c ∧ c ≤ 122) ∨ (65 ≤ c ∧ c ≤ 90))) : ltr c = false := by
  cases hl : ltr c
  · rfl
  · simp [ltr] at hl
    omega

set_option maxHeartbeats 400000 in
theorem isLetter_any (c : Int) (w : World) : Calls Tryf.prog 19 #[.int .u8 c] w fun e w' => e = .returned (.bool (ltr c)) ∧ w' = w := by
  by_cases h1 : 97 ≤ c
  · by_cases h2 : c ≤ 122
    · go_enter Tryf.func19, Tryf.ntmps19
      go_wp2
      go_ret
      exact ⟨ret_bool (by rw [ltr_t (by omega)]), rfl⟩
    · have h3 : 65 ≤ c := by omega
      have h4 : ¬ c ≤ 90 := by omega
      go_enter Tryf.func19, Tryf.ntmps19
      go_wp2
      go_ret
      exact ⟨ret_bool (by rw [ltr_f (by omega)]), rfl⟩
  · by_cases h2 : 65 ≤ c
    · by_cases h3 : c ≤ 90
      · go_enter Tryf.func19, Tryf.ntmps19
        go_wp2
        go_ret
        exact ⟨ret_bool (by rw [ltr_t (by omega)]), rfl⟩
      · go_enter Tryf.func19, Tryf.ntmps19
        go_wp2
        go_ret
        exact ⟨ret_bool (by rw [ltr_f (by omega)]), rfl⟩
    · go_enter Tryf.func19, Tryf.ntmps19
      go_wp2
      go_ret
      exact ⟨ret_bool (by rw [ltr_f (by omega)]), rfl⟩

theorem foldTab : ∀ n : Fin 256, (decide (97 ≤ bits BinOp.or IntKind.u8 (n.val : Int) 32) && decide (bits BinOp.or IntKind.u8 (n.val : Int) 32 ≤ 122)) = ltr (n.val : Int) := by decide +kernel
theorem fold_eq (c : Int) (h0 : 0 ≤ c) (h255 : c ≤ 255) : (decide (97 ≤ bits BinOp.or IntKind.u8 c 32) && decide (bits BinOp.or IntKind.u8 c 32 ≤ 122)) = ltr c := by
  have := foldTab ⟨c.toNat, by omega⟩
  rw [show ((⟨c.toNat, by omega⟩ : Fin 256).val : Int) = c by simp; omega] at this
  exact this

set_option maxHeartbeats 400000 in
theorem zzFold_any (c : Int) (h0 : 0 ≤ c) (h255 : c ≤ 255) (w : World) : Calls Tryf.prog 14 #[.int .u8 c] w fun e w' => e = .returned (.bool (ltr c)) ∧ w' = w := by
  have he := fold_eq c h0 h255
  obtain ⟨d, hd⟩ : ∃ d, bits BinOp.or IntKind.u8 c 32 = d := ⟨_, rfl⟩
  rw [hd] at he
  have HE : Hid ((decide (97 ≤ d) && decide (d ≤ 122)) = ltr c) := he
  clear he
  by_cases h1 : 97 ≤ d
  · by_cases h2 : d ≤ 122
    · go_enter Tryf.func14, Tryf.ntmps14
      go_wp2
      go_ret
      exact ⟨ret_bool (by rw [← HE.out]; simp [h1, h2]), rfl⟩
    · go_enter Tryf.func14, Tryf.ntmps14
      go_wp2
      go_ret
      exact ⟨ret_bool (by rw [← HE.out]; simp; omega), rfl⟩
  · go_enter Tryf.func14, Tryf.ntmps14
    go_wp2
    go_ret
    exact ⟨ret_bool (by rw [← HE.out]; simp; omega), rfl⟩

end Go.Proofs.Qxb6630009aFmt
