/- Seat b6628959a: toReplace copies; modelDownload picks what 'pick' picks. -/
import Derived.Test.Qxb6628959aFrontWalk
import Derived.RegionTactic
namespace Go.Proofs.Qxb6628959a
open Go.RowKit Go.Deep

/-! ### plain -/
/-- The first replacement of just this version. -/
def findE (req : M) : List (M × M) → Option M
  | [] => none
  | r :: rs => if sEq r.1.1 req.1 && sEq r.1.2 req.2 then some r.2 else findE req rs
/-- The last replacement of every version. -/
def lastW (req m : M) : List (M × M) → M
  | [] => m
  | r :: rs => if sEq r.1.1 req.1 && sNil r.1.2 then lastW req r.2 rs else lastW req m rs

theorem pick_eq (req m : M) (l : List (M × M)) : pick req m l = (findE req l).getD (lastW req m l) := by
  induction l generalizing m with
  | nil => rfl
  | cons r rs ih =>
    rw [pick, findE, lastW]
    cases h1 : sEq r.1.1 req.1 <;> cases h2 : sEq r.1.2 req.2 <;> cases h3 : sNil r.1.2 <;> simp [ih]

theorem pick_exact {p v q u : ByteArray} {l2 : List (M × M)} (hf : findE (p, v) l2 = some (q, u)) : pick (p, v) (p, v) l2 = (q, u) := by rw [pick_eq, hf]; rfl
theorem pick_last {p v : ByteArray} {m : M} {l2 : List (M × M)} (hf : findE (p, v) l2 = none) (hw : lastW (p, v) (p, v) l2 = m) : pick (p, v) (p, v) l2 = m := by rw [pick_eq, hf]; exact hw
theorem findE_step {req : M} {l : List (M × M)} {j : Nat} {p v q u : ByteArray} (h : l[j]? = some ((p, v), (q, u))) (hn : (sEq p req.1 && sEq v req.2) = false) : findE req (l.drop j) = findE req (l.drop (j + 1)) := by
  rw [drop_at h, findE]; simp only [hn]; simp
theorem findE_hit {req : M} {l : List (M × M)} {j : Nat} {p v q u : ByteArray} (h : l[j]? = some ((p, v), (q, u))) (hn : (sEq p req.1 && sEq v req.2) = true) : findE req (l.drop j) = some (q, u) := by
  rw [drop_at h, findE]; simp only [hn]; simp
theorem findE_end {req : M} {l : List (M × M)} {j : Nat} (h : l.length ≤ j) : findE req (l.drop j) = none := by rw [List.drop_eq_nil_of_le h, findE]
theorem lastW_append (req m : M) (a b : List (M × M)) : lastW req m (a ++ b) = lastW req (lastW req m a) b := by
  induction a generalizing m with
  | nil => rfl
  | cons r rs ih => rw [List.cons_append, lastW, lastW]; split <;> exact ih _
theorem lastW_take {req m : M} {l : List (M × M)} {j : Nat} {p v q u : ByteArray} (h : l[j]? = some ((p, v), (q, u))) : lastW req m (l.take (j + 1)) = if sEq p req.1 && sNil v then (q, u) else lastW req m (l.take j) := by
  obtain ⟨hj, he⟩ := List.getElem?_eq_some_iff.1 h
  rw [List.take_succ_eq_append_getElem hj, he, lastW_append, lastW, lastW, lastW]

/-! ### toReplace -/
set_option maxHeartbeats 1000000 in
theorem toReplace_some (ao : Option Addr) (n c : Nat) (l : List (M × M)) (b off : Nat) (w : World) (hl : l.length = n) (h : RepsAt w ao l b off) (hn : n ≤ 4096) (hne : ao.isNone = false) :
    Calls Try.prog 8 #[.slice ao n c] w fun e w' => e = .returned (.slice (some ⟨w.heap.size, 0, none⟩) n n) ∧ RepsAt w' (some ⟨w.heap.size, 0, none⟩) l w.heap.size 0 ∧ Below w.heap.size w w' := by
  have hmk := make29 n (by omega)
  have hnil : ∀ (w : World) (a : Option Addr) (n c n' c' : Nat), (binOp .eql 23 (.slice a n c) (.slice none n' c')).run Try.prog w = .ok (.bool a.isNone) w := fun w a n c n' c' => Lib.run_eql_slice_nil w _ _ a n c n' c' Try.underlying23
  go_enter Try.func8, Try.ntmps8
  go_wp2
  go_loopw [4] (fun i wr => ∃ (j : Nat) (f : Nat → ByteArray), j ≤ n ∧ i = .int .i64 j ∧ Strs wr w.heap.size 42 (n * 4) f ∧ Upto4 l j f ∧ Below w.heap.size w wr) (fun i _ => n - (intOf i).toNat)
  case atStart => exact ⟨0, _, Nat.zero_le _, rfl, made4 _ _ _ _, fun j _ _ _ _ hj => by omega, (Below.refl _ _).alloc (Nat.le_refl _) _⟩
  case round =>
    obtain ⟨j, f, hj, rfl, hs, hu, hb⟩ := hrel
    by_cases hlt : j < n
    · obtain ⟨p, v, q, u, hkv⟩ := at_reps (l := l) (k := j) (by omega)
      have hix := fun w => ix23 (c := c) (b := b) (off := off) hlt (h.addr (by omega)) w
      have hB := h.lt (by omega)
      have hBn : ¬ w.heap.size = b := by omega
      obtain ⟨d1, d2, d3, d4⟩ := (h.on hb).cells j p v q u hkv
      have HS : Hid (Strs wr w.heap.size 42 (n * 4) f) := hs
      have HU : Hid (Upto4 l j f) := hu
      have HK : Hid (l[j]? = some ((p, v), (q, u))) := hkv
      clear hs hu hkv
      go_wp2_with fail
      refine (toModule_any _ _ _).mono ?_
      rintro e w7 ⟨rfl, hb7⟩
      have S7 := HS.out.on hb7
      have B7 : Below w.heap.size w w7 := hb.trans (hb7.mono hb.size)
      have f7 := S7.frozen
      have g0 := S7.cell (i := j * 4) (by omega)
      have g1 := S7.cell (i := j * 4 + 1) (by omega)
      have e3 := (B7.cell (p := ⟨b, off + j * 4 + 2, none⟩) hB).trans (h.cells j p v q u HK.out).2.2.1
      have e4 := (B7.cell (p := ⟨b, off + j * 4 + 3, none⟩) hB).trans (h.cells j p v q u HK.out).2.2.2
      have HS7 : Hid (Strs w7 w.heap.size 42 (n * 4) f) := S7
      clear S7 hb7 d1 d2 d3 d4
      go_wp2_with fail
      refine (toModule_any _ _ _).mono ?_
      rintro e w8 ⟨rfl, hb8⟩
      have S8 := (Strs.set (Strs.set HS7.out _ p) _ v).on hb8
      have B8 : Below w.heap.size w w8 := ((B7.setCell (Nat.le_refl _) _).setCell (Nat.le_refl _) _).trans (hb8.mono (by have := B7.size; simpa [World.setCell] using this))
      have f8 := S8.frozen
      have g2 := S8.cell (i := j * 4 + 2) (by omega)
      have g3 := S8.cell (i := j * 4 + 3) (by omega)
      clear hb8 e3 e4 g0 g1 f7
      go_wp2_with fail
      go_roundw
      case rel => exact ⟨j + 1, _, by omega, by go_num, (S8.set _ _).set _ _, HU.out.succ HK.out, (B8.setCell (Nat.le_refl _) _).setCell (Nat.le_refl _) _⟩
      case measure => simp [intOf]; omega
    · go_wp2
      go_ret
      obtain rfl : j = n := by omega
      exact ⟨rfl, reps_of_strs hs hl hu, hb⟩

set_option maxHeartbeats 1000000 in
theorem toReplace_nil (w : World) :
    Calls Try.prog 8 #[.slice none 0 0] w fun e w' => e = .returned (.slice none 0 0) ∧ w' = w := by
  have hnil : ∀ (w : World) (a : Option Addr) (n c n' c' : Nat), (binOp .eql 23 (.slice a n c) (.slice none n' c')).run Try.prog w = .ok (.bool a.isNone) w := fun w a n c n' c' => Lib.run_eql_slice_nil w _ _ a n c n' c' Try.underlying23
  go_enter Try.func8, Try.ntmps8
  go_wp2
  go_ret
  exact ⟨rfl, rfl⟩

theorem toReplace_any (ao : Option Addr) (n c : Nat) (l : List (M × M)) (b off : Nat) (w : World) (hl : l.length = n) (h : RepsAt w ao l b off) (hn : n ≤ 4096) (h0 : ao = none → n = 0 ∧ c = 0) :
    Calls Try.prog 8 #[.slice ao n c] w fun e w' => ∃ ao' b', e = .returned (.slice ao' n n) ∧ RepsAt w' ao' l b' 0 ∧ Below w.heap.size w w' := by
  cases ao with
  | none =>
    obtain ⟨rfl, rfl⟩ := h0 rfl
    refine (toReplace_nil w).mono fun e w' ⟨he, hw⟩ => ⟨none, 0, he, ?_, by rw [hw]; exact Below.refl _ _⟩
    refine ⟨fun hp => by omega, fun k p v q u hk => ?_⟩
    obtain rfl : l = [] := List.length_eq_zero_iff.1 hl
    simp at hk
  | some a => exact (toReplace_some (some a) n c l b off w hl h hn rfl).mono fun e w' ⟨he, hm, hb⟩ => ⟨_, _, he, hm, hb⟩

/-! ### modelDownload -/
set_option maxHeartbeats 2000000 in
theorem model_any (p v : ByteArray) (ao2 : Option Addr) (n2 c2 : Nat) (l2 : List (M × M)) (b2 off2 : Nat) (w : World) (hl2 : l2.length = n2) (hn2 : n2 ≤ 4096) (h2 : RepsAt w ao2 l2 b2 off2) :
    Calls Try.prog 10 #[.agg #[.string p, .string v], .slice ao2 n2 c2] w fun e w' => ∃ q u : ByteArray, pick (p, v) (p, v) l2 = (q, u) ∧ e = .returned (.tuple #[.agg #[.string q, .string u], .bool (!u.toList.isEmpty)]) ∧ Below w.heap.size w w' := by
  go_enter Try.func10, Try.ntmps10
  go_wp2_with fail
  go_loopw [7, 8] (fun x i wr => ∃ (j : Nat), j ≤ n2 ∧ i = .int .i64 j ∧ x = .int .i64 (-1) ∧ findE (p, v) (l2.drop j) = findE (p, v) l2 ∧ Two wr w.heap.size 35 p v ∧ Two wr (w.heap.size + 1) 35 ⟨#[]⟩ ⟨#[]⟩ ∧ Two wr (w.heap.size + 2) 35 p v ∧ Below w.heap.size w wr) (fun _ i _ => n2 - (intOf i).toNat)
  case atStart =>
    refine ⟨0, Nat.zero_le _, rfl, rfl, rfl, ?_, ?_, ?_, ?_⟩
    · exact ((Two.new _ _ _ _).alloc _).alloc _
    · have := (Two.new (w.alloc (.cells #[.string p, .string v] 35)) 35 ⟨#[]⟩ ⟨#[]⟩).alloc (.cells #[.string p, .string v] 35)
      simpa using this
    · have := Two.new ((w.alloc (.cells #[.string p, .string v] 35)).alloc (.cells #[es, es] 35)) 35 p v
      simpa using this
    · exact (((Below.refl _ _).alloc (Nat.le_refl _) _).alloc (by simp) _).alloc (by simp; omega) _
  case round =>
    obtain ⟨j, hj, rfl, rfl, hf, hT, hE, hC, hb⟩ := hrel
    have t0 := hT.c0
    have t1 := hT.c1
    have x0 := hC.c0
    have x1 := hC.c1
    have x2 := hC.frozen 0
    have x3 := hC.frozen 1
    have y0 := hE.c0
    have y1 := hE.c1
    have y2 := hE.frozen 0
    have y3 := hE.frozen 1
    have HF : Hid (findE (p, v) (l2.drop j) = findE (p, v) l2) := hf
    clear hf
    by_cases hlt : j < n2
    · obtain ⟨rp, rv, rq, ru, hr⟩ := at_reps (l := l2) (k := j) (by omega)
      have hix := fun w => ix23 (c := c2) (b := b2) (off := off2) hlt (h2.addr (by omega)) w
      obtain ⟨d1, d2, d3, d4⟩ := (h2.on hb).cells j rp rv rq ru hr
      have HR : Hid (l2[j]? = some ((rp, rv), (rq, ru))) := hr
      clear hr
      cases e1 : (rp.toList == p.toList)
      · go_wp2_with fail
        go_quiet (fail)
        go_wp2_with fail
        go_roundw
        case rel => exact ⟨j + 1, by omega, by go_num, rfl, (findE_step HR.out (by simp [sEq, e1])).symm.trans HF.out, hT, hE, hC, below_drewN hb _⟩
        case measure => simp [intOf]; omega
      · cases e2 : (rv.toList == v.toList)
        · go_wp2_with fail
          go_quiet (fail)
          go_wp2_with fail
          go_roundw
          case rel => exact ⟨j + 1, by omega, by go_num, rfl, (findE_step HR.out (by simp [sEq, e1, e2])).symm.trans HF.out, hT, hE, hC, below_drewN hb _⟩
          case measure => simp [intOf]; omega
        · go_wp2_with fail
          go_quiet (fail)
          go_wp2_with fail
          have HPK := pick_exact (HF.out.symm.trans (findE_hit (req := (p, v)) HR.out (by simp [sEq, e1, e2])))
          go_region
          all_goals try go_wp2
          all_goals exact bodyPost_ret (v := .tuple #[.agg #[.string rq, .string ru], .bool (!ru.toList.isEmpty)]) (by simp [results, Try.results10, go_sem, y0, y1]) rfl ⟨rq, ru, HPK, rfl, by first | exact ((((below_drewN hb _).setCell (by simp; omega) _).setCell (by simp; omega) _).setCell (by simp) _).setCell (by simp) _ | exact (((((below_drewN hb _).drew).setCell (by simp; omega) _).setCell (by simp; omega) _).setCell (by simp) _).setCell (by simp) _⟩
    · have HN : Hid (findE (p, v) l2 = none) := HF.out.symm.trans (findE_end (by omega))
      have HB : Hid (Below w.heap.size w wr) := hb
      obtain ⟨wo, rfl⟩ : ∃ wo : World, wo = wr := ⟨_, rfl⟩
      go_wp2_with fail
      go_loopw [9] (fun i wr => ∃ (jj : Int), -1 ≤ jj ∧ jj < n2 ∧ i = .int .i64 jj ∧ lastW (p, v) (p, v) (l2.take (jj + 1).toNat) = lastW (p, v) (p, v) l2 ∧ Two wr w.heap.size 35 p v ∧ Two wr (w.heap.size + 1) 35 ⟨#[]⟩ ⟨#[]⟩ ∧ Two wr (w.heap.size + 2) 35 p v ∧ Below w.heap.size w wr) (fun i _ => (intOf i + 1).toNat)
      case atStart => exact ⟨_, by omega, by omega, rfl, by rw [List.take_of_length_le (by omega)], hT, hE, hC, HB.out⟩
      case round =>
        clear hT hE hC t0 t1 x0 x1 x2 x3 y0 y1 y2 y3 hb HB
        obtain ⟨jj, h1, h3, rfl, hw, hT, hE, hC, hb⟩ := hrel
        have t0 := hT.c0
        have t1 := hT.c1
        have x0 := hC.c0
        have x1 := hC.c1
        have x2 := hC.frozen 0
        have x3 := hC.frozen 1
        have y0 := hE.c0
        have y1 := hE.c1
        have y2 := hE.frozen 0
        have y3 := hE.frozen 1
        have HW : Hid (lastW (p, v) (p, v) (l2.take (jj + 1).toNat) = lastW (p, v) (p, v) l2) := hw
        clear hw
        by_cases hjj : 0 ≤ jj
        · obtain ⟨k, hk⟩ := Int.eq_ofNat_of_zero_le hjj
          subst hk
          obtain ⟨rp, rv, rq, ru, hr⟩ := at_reps (l := l2) (k := k) (by omega)
          have hix := fun w => ix23 (c := c2) (b := b2) (off := off2) (k := k) (n := n2) (by omega) (h2.addr (by omega)) w
          obtain ⟨d1, d2, d3, d4⟩ := (h2.on hb).cells k rp rv rq ru hr
          have HR : Hid (l2[k]? = some ((rp, rv), (rq, ru))) := hr
          clear hr
          have HS : Hid (lastW (p, v) (p, v) l2 = if sEq rp p && sNil rv then (rq, ru) else lastW (p, v) (p, v) (l2.take k)) := by
            have := HW.out.symm
            rw [show ((k : Int) + 1).toNat = k + 1 by omega, lastW_take HR.out] at this
            exact this
          cases e1 : (rp.toList == p.toList)
          · have HS' : Hid (lastW (p, v) (p, v) (l2.take ((k : Int) - 1 + 1).toNat) = lastW (p, v) (p, v) l2) := by
              have := HS.out
              rw [show ((k : Int) - 1 + 1).toNat = k by omega]
              simp only [sEq, e1] at this
              simp at this
              exact this.symm
            go_wp2_with fail
            go_quiet (fail)
            go_wp2_with fail
            go_roundw
            case rel => exact ⟨_, by omega, by omega, rfl, HS'.out, hT, hE, hC, below_drewN hb _⟩
            case measure => simp [intOf]
          · cases e2 : rv.toList.isEmpty
            · have HS' : Hid (lastW (p, v) (p, v) (l2.take ((k : Int) - 1 + 1).toNat) = lastW (p, v) (p, v) l2) := by
                have := HS.out
                rw [show ((k : Int) - 1 + 1).toNat = k by omega]
                simp only [sEq, sNil, e1, e2] at this
                simp at this
                exact this.symm
              go_wp2_with fail
              go_quiet (fail)
              go_wp2_with fail
              go_roundw
              case rel => exact ⟨_, by omega, by omega, rfl, HS'.out, hT, hE, hC, below_drewN hb _⟩
              case measure => simp [intOf]
            · have HPK : pick (p, v) (p, v) l2 = (rq, ru) := pick_last HN.out (by
                have := HS.out
                simp only [sEq, sNil, e1, e2] at this
                simpa using this)
              go_wp2_with fail
              go_quiet (fail)
              go_wp2_with fail
              go_region
              all_goals try go_wp2
              all_goals exact bodyPost_ret (v := .tuple #[.agg #[.string rq, .string ru], .bool (!ru.toList.isEmpty)]) (by simp [results, Try.results10, go_sem, y0, y1]) rfl ⟨rq, ru, HPK, rfl, by first | exact ((((below_drewN hb _).setCell (by simp; omega) _).setCell (by simp; omega) _).setCell (by simp) _).setCell (by simp) _ | exact (((((below_drewN hb _).drew).setCell (by simp; omega) _).setCell (by simp; omega) _).setCell (by simp) _).setCell (by simp) _⟩
        · have HPK : pick (p, v) (p, v) l2 = (p, v) := pick_last HN.out (by
            have := HW.out
            rw [show (jj + 1).toNat = 0 by omega] at this
            exact this.symm)
          go_wp2_with fail
          go_region
          all_goals try go_wp2
          all_goals exact bodyPost_ret (v := .tuple #[.agg #[.string p, .string v], .bool (!v.toList.isEmpty)]) (by simp [results, Try.results10, go_sem, y0, y1]) rfl ⟨p, v, HPK, rfl, by first | exact (hb.setCell (by simp) _).setCell (by simp) _ | exact ((hb.drew).setCell (by simp) _).setCell (by simp) _⟩

end Go.Proofs.Qxb6628959a
