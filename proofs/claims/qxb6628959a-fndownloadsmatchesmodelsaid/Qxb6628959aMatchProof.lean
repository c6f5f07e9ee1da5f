/- Seat b6628959a: FnDownloadsMatchesModelSaid. -/
import Derived.Test.Qxb6628959aModel
import Derived.Test.Qxb6628959aZzM
import Derived.Test.Qxb6628959aOpen
import Derived.ProofKit
import Derived.OpenShut
import Derived.ChangeOld
import Derived.Below
namespace Go.Proofs.Qxb6628959a.modelLaw
open Go.ChangeShapes Go.WideShapes Go.ChangeAt Go.RowKit Go.Deep

set_option maxHeartbeats 2000000 in
set_option maxRecDepth 100000 in
theorem match_walk (ao ao2 : Option Addr) (n c n2 c2 : Nat) (l : List M) (l2 : List (M × M)) (b off b2 off2 : Nat) (w : World) (hl : l.length = n) (hl2 : l2.length = n2)
    (h : ModsAt w ao l b off) (h2 : RepsAt w ao2 l2 b2 off2) (h0 : ao = none → n = 0 ∧ c = 0) (h02 : ao2 = none → n2 = 0 ∧ c2 = 0) :
    Calls Try.prog 3 #[.slice ao n c, .slice ao2 n2 c2] w fun e w' => e = .returned (.bool true) ∧ Below w.heap.size w w' := by
  go_enter Try.func3, Try.ntmps3
  go_wp2_with fail
  refine (zzBytesM_any ao ao2 n c n2 c2 l l2 b off b2 off2 _ hl hl2 h h2).mono ?_
  rintro e w1 ⟨⟨r, rfl⟩, hb1⟩
  have M1 := h.on hb1
  have R1 := h2.on hb1
  cases r
  · go_wp2
    go_ret
    exact ⟨rfl, hb1⟩
  by_cases hn : n ≤ 4096
  rotate_left
  · go_wp2
    go_ret
    exact ⟨rfl, hb1⟩
  by_cases hn2 : n2 ≤ 4096
  rotate_left
  · go_wp2
    go_ret
    exact ⟨rfl, hb1⟩
  go_wp2_with fail
  refine (bytesUsed_any _ ao ao2 n c n2 c2 l l2 b off b2 off2 _ hl hl2 M1 R1 hn hn2).mono ?_
  rintro e w4 ⟨⟨r4, rfl⟩, hb4⟩
  have M4 := M1.on hb4
  have R4 := R1.on hb4
  have B4 : Below w.heap.size w w4 := hb1.trans (hb4.mono hb1.size)
  clear M1 R1 hb1 hb4 h h2
  by_cases hr4 : r4 < 0
  · go_wp2
    go_ret
    exact ⟨rfl, B4⟩
  go_wp2_with fail
  refine (toRequire_any ao n c l b off _ hl M4 hn h0).mono ?_
  rintro e w5 ⟨aoQ, bQ, rfl, MQ, hb5⟩
  go_wp2_with fail
  refine (toReplace_any ao2 n2 c2 l2 b2 off2 _ hl2 (R4.on hb5) hn2 h02).mono ?_
  rintro e w6 ⟨aoP, bP, rfl, RP, hb6⟩
  go_wp2_with fail
  obtain ⟨G, hG⟩ : ∃ G, G = dl l2 l := ⟨_, rfl⟩
  have hB6 : Below w6.heap.size w6 (w6.alloc (.cells #[.slice aoQ n n, .slice aoP n2 n2] 32)) := (Below.refl _ _).alloc (Nat.le_refl _) _
  have D := downloads_mods w6.heap.size aoQ aoP n n n2 n2 l l2 bQ 0 bP 0 (w6.alloc (.cells #[.slice aoQ n n, .slice aoP n2 n2] 32)) hl hl2 hn (by omega) ((MQ.on hb6).on hB6) (RP.on hB6) (by simp) (by simp)
  rw [← hG] at D
  have HG : Hid (G = dl l2 l) := hG
  have hGn : G.length ≤ n := by rw [hG, ← hl]; exact dl_length _ _
  clear hG
  refine D.mono ?_
  clear D
  rintro e w7 ⟨aoG, bG, cG, rfl, MG, hb7⟩
  have C6 : Below w4.heap.size w4 w6 := hb5.trans (hb6.mono hb5.size)
  have C7 : Below w4.heap.size w4 w7 := (C6.alloc C6.size _).trans (hb7.mono (by have := C6.size; simp; omega))
  have M7 := M4.on C7
  have R7 := R4.on C7
  have B7 : Below w.heap.size w w7 := B4.trans (C7.mono B4.size)
  clear hB6 hb5 hb6 hb7 C6 C7 M4 R4 B4 MQ RP
  go_wp2_with fail
  go_loopw [7, 8] (fun kk ii wr => ∃ (i k : Nat), i ≤ n ∧ ii = .int .i64 i ∧ kk = .int .i64 k ∧ k ≤ G.length ∧ G.drop k = dl l2 (l.drop i) ∧ Below w7.heap.size w7 wr) (fun _ ii _ => n - (intOf ii).toNat)
  case atStart => exact ⟨0, 0, Nat.zero_le _, rfl, rfl, Nat.zero_le _, HG.out, Below.refl _ _⟩
  case round =>
    obtain ⟨i, k, hi, rfl, rfl, hk, hd, hb⟩ := hrel
    have HD : Hid (G.drop k = dl l2 (l.drop i)) := hd
    clear hd
    have hsz := hb.size
    by_cases hlt : i < n
    · obtain ⟨p, v, hkv⟩ := at_mods (l := l) (k := i) (by omega)
      have HK : Hid (l[i]? = some (p, v)) := hkv
      have hix := fun w => ix22 (c := c) (b := b) (off := off) hlt (M7.addr (by omega)) w
      obtain ⟨hc1, hc2⟩ := (M7.on hb).cells i p v hkv
      clear hkv
      go_wp2_with fail
      refine (model_any p v ao2 n2 c2 l2 b2 off2 _ hl2 hn2 (R7.on hb)).mono ?_
      rintro e w8 ⟨q, u, hp, rfl, hb8⟩
      have HP : Hid (pick (p, v) (p, v) l2 = (q, u)) := hp
      have B8 : Below w7.heap.size w7 w8 := hb.trans (hb8.mono hsz)
      have S8 := B8.size
      clear hp hb8 hix hc1 hc2
      cases e3 : u.toList.isEmpty
      · obtain ⟨hGk, hGd, hkl⟩ := front_step HK.out HD.out HP.out e3
        have hix2 := fun w => ix27 (c := cG) (b := bG) (off := 0) hkl (MG.addr (by omega)) w
        obtain ⟨y1, y2⟩ := (MG.on B8).cells k q u hGk
        have hbG : bG < w8.heap.size := by have := MG.lt (by omega); omega
        have HGd : Hid (G.drop (k + 1) = dl l2 (l.drop (i + 1))) := hGd
        clear hGk hGd
        simp only [Nat.zero_add] at hix2 y1 y2
        go_wp2_with fail
        go_quiet (fail)
        go_wp2_with fail
        go_roundw
        case rel => exact ⟨i + 1, k + 1, by omega, by go_num, by go_num, by omega, HGd.out, below_drewN (B8.alloc S8 _) _⟩
        case measure => simp [intOf]; omega
      · have HGd : Hid (G.drop k = dl l2 (l.drop (i + 1))) := front_none HK.out HD.out HP.out e3
        go_wp2_with fail
        go_roundw
        case rel => exact ⟨i + 1, k, by omega, by go_num, rfl, by omega, HGd.out, B8.alloc S8 _⟩
        case measure => simp [intOf]; omega
    · obtain rfl : n = i := by omega
      have hd := HD.out
      rw [List.drop_eq_nil_of_le (Nat.le_of_eq hl)] at hd
      have hkG : k = G.length := by
        have := congrArg List.length hd
        simp [dl] at this
        omega
      have he : ((k : Int) == (G.length : Int)) = true := by rw [hkG]; simp
      clear hkG hd
      go_wp2
      go_ret
      exact ⟨rfl, B7.trans (hb.mono B7.size)⟩

theorem own : ownKnob Try.prog.godebug = none := by kernel_rfl
theorem laidOut : laidOutB Try.prog = true := by kernel_rfl

set_option maxRecDepth 100000 in
theorem lifted (os : Os) (started : os.Started) (H : Type) (enc : TypeId × Value → H) :
    ReturnsInHanded {} Try.checked os 3 .any (Rows.fnDownloadsMatchesModelSpec.pre6 enc Try.prog Try.f3 Rows.fnDownloadsMatchesModelRow.domain false) (Rows.fnDownloadsMatchesModelSpec.post enc Try.prog Try.f3 false true false false) := by
  refine returnsInHanded_of_change (C := Try.checked) own started (by kernel_rfl) Try.func3
    (ChangeSpec.witness6 (enc := enc) (C := Try.checked) false ⟨#[], #[.slice none 0 0, .slice none 0 0], []⟩ 8 (by kernel_rfl) (by kernel_rfl) (by kernel_rfl) (by kernel_rfl)) ?_
  intro W base args ds gs before hval0 hW hcnd _
  have hval : ∀ (j : Nat) t v, Try.f3.params[j]? = some t → args[j]? = some v → Value.okWide Try.prog W .any base t v := hval0
  have hW' := hW
  obtain ⟨p, q, hA0, hV, rfl, hfz, hnd⟩ := hW
  have hA : DataW.TrodAll enc Try.prog W 0 (fun _ => true) true Try.f3.params.toList args.toList ds p := hA0
  rw [Try.params3] at hA hval
  obtain ⟨v0, vs0, d0, ds0, p0, q0, hargs, rfl, rfl, h0, r0⟩ := trodAll_cons hA
  obtain ⟨v1, vs1, d1, ds1, p1, q1, rfl, rfl, rfl, h1, r1⟩ := trodAll_cons r0
  obtain ⟨rfl, rfl, rfl⟩ := trodAll_nil r1
  obtain rfl : args = #[v0, v1] := by cases args; simp_all
  obtain ⟨rfl, rfl⟩ := trodVars_none hV
  obtain ⟨a0, len0, cap0, rfl⟩ := okWide_slice Try.underlying22 (hval 0 22 v0 rfl rfl)
  obtain ⟨a1, len1, cap1, rfl⟩ := okWide_slice Try.underlying23 (hval 1 23 v1 rfl rfl)
  have k0 := h0
  have k1 := h1
  have lt0 : ∀ x ∈ p0, x.block < W.heap.size := by obtain ⟨m, hm⟩ := k0; exact DataW.trod_lt m _ _ _ hm
  have lt1 : ∀ x ∈ p1, x.block < W.heap.size := by obtain ⟨m, hm⟩ := k1; exact DataW.trod_lt m _ _ _ hm
  obtain ⟨f0, hf0⟩ := h0
  obtain ⟨f1, hf1⟩ := h1
  obtain ⟨l, b, off, hl, hM, hnil⟩ := open22 (by simpa [Value.cells] using hf0)
  obtain ⟨l2, b2, off2, hl2, hR, hnil2⟩ := open23 (by simpa [Value.cells] using hf1)
  clear hA0 hval0
  refine (match_walk a0 a1 len0 cap0 len1 cap1 l l2 b off b2 off2 W hl hl2 hM hR hnil hnil2).mono fun e W' ⟨he, bel⟩ => ?_
  subst he
  exact ⟨_, rfl, _, _, _, [], _, [], hW', trodAll_mk1 (shut_bool Try.underlying4 _), (trodAll_cons_mk (Below.trod laidOut (by kernel_rfl) (of_decide_eq_true (by kernel_rfl)) k0 bel lt0) (trodAll_cons_mk (Below.trod laidOut (by kernel_rfl) (of_decide_eq_true (by kernel_rfl)) k1 bel lt1) trodAll_mk0)), rfl, bel.frame _, fun h => by cases h⟩

theorem over : Rows.fnDownloadsMatchesModelRow.holds Try.pinned (OpenSpec.ofChange Rows.fnDownloadsMatchesModelSpec) :=
  OpenClaim.holds_of_wide 3 Try.f3 rfl rfl rfl rfl rfl rfl rfl ⟨rfl, rfl, rfl, rfl, rfl⟩ rfl rfl rfl rfl rfl (by kernel_rfl) Try.func3 (by kernel_rfl)
    (of_decide_eq_true (by kernel_rfl)) (by unfold Func.isWrapper; first | (rw [if_pos (by decide +kernel)]; kernel_rfl) | (rw [if_neg (by decide +kernel)]; exact ⟨rfl, rfl⟩))
    (fun os started H enc _ => lifted os started H enc)

theorem proved : Rows.FnDownloadsMatchesModelSaid := over
#print axioms proved
end Go.Proofs.Qxb6628959a.modelLaw
