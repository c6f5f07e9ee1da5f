/- Seat b6628959a: Downloads lists 'dl'. -/
import Derived.Test.Qxb6628959aRequire
namespace Go.Proofs.Qxb6628959a
open Go.RowKit Go.Deep

/-- Block B is a pair of strings of the call's own. -/
def Two (w : World) (B : Nat) (t : TypeId) (p v : ByteArray) : Prop := w.heap[B]? = some (.cells #[.string p, .string v] t (0, 0))
theorem Two.c0 {w : World} {B t : Nat} {p v : ByteArray} (h : Two w B t p v) : w.cell? ⟨B, 0, none⟩ = some (.string p) := by unfold Two at h; simp [World.cell?, h]
theorem Two.c1 {w : World} {B t : Nat} {p v : ByteArray} (h : Two w B t p v) : w.cell? ⟨B, 1, none⟩ = some (.string v) := by unfold Two at h; simp [World.cell?, h]
theorem Two.frozen {w : World} {B t : Nat} {p v : ByteArray} (h : Two w B t p v) (i : Nat) : w.frozen? ⟨B, i, none⟩ = false := by unfold Two at h; simp [World.frozen?, h]
theorem Two.lt {w : World} {B t : Nat} {p v : ByteArray} (h : Two w B t p v) : B < w.heap.size := (Array.getElem?_eq_some_iff.1 h).1
theorem Two.new (w : World) (t : Nat) (p v : ByteArray) : Two (w.alloc (.cells #[.string p, .string v] t)) w.heap.size t p v := blk_alloc_new _ _
theorem Two.alloc {w : World} {B t : Nat} {p v : ByteArray} (h : Two w B t p v) (o : Obj) : Two (w.alloc o) B t p v := (blk_alloc_lt _ _ _ h.lt).trans h
theorem Two.below {w w' : World} {B t K : Nat} {p v : ByteArray} (h : Two w B t p v) (hb : Below K w w') (hK : B < K) : Two w' B t p v := (hb.block B hK).trans h
theorem Two.setOther {w : World} {B t : Nat} {p v : ByteArray} (h : Two w B t p v) {a : Addr} (ha : B ≠ a.block) (u : Value) : Two (w.setCell a u) B t p v := (blk_setCell_other _ _ _ _ ha).trans h
theorem Two.set {w : World} {B t : Nat} {p v : ByteArray} (h : Two w B t p v) (q u : ByteArray) : Two ((w.setCell ⟨B, 0, none⟩ (.string q)).setCell ⟨B, 1, none⟩ (.string u)) B t q u := by
  unfold Two at h ⊢
  simp [World.setCell, Array.getElem?_modify, h]

/-- The cells of a list of modules. -/
def cellsOf : List M → List Value
  | [] => []
  | m :: ms => .string m.1 :: .string m.2 :: cellsOf ms

theorem cellsOf_append (a b : List M) : cellsOf (a ++ b) = cellsOf a ++ cellsOf b := by
  induction a with
  | nil => rfl
  | cons x xs ih => simp [cellsOf, ih]
theorem cellsOf_length (a : List M) : (cellsOf a).length = a.length * 2 := by
  induction a with
  | nil => rfl
  | cons x xs ih => simp [cellsOf, ih]; omega
theorem cellsOf_at {l : List M} {k : Nat} {p v : ByteArray} (h : l[k]? = some (p, v)) : (cellsOf l)[k * 2]? = some (.string p) ∧ (cellsOf l)[k * 2 + 1]? = some (.string v) := by
  induction l generalizing k with
  | nil => simp at h
  | cons x xs ih =>
    cases k with
    | zero => simp at h; subst h; simp [cellsOf]
    | succ k =>
      have := ih (k := k) (by simpa using h)
      rw [show (k + 1) * 2 = k * 2 + 1 + 1 by omega]
      simpa [cellsOf] using this

/-- The slice v of the call's own holds acc. -/
def Own (w : World) (B : Nat) (v : Value) (acc : List M) : Prop := w.ownsRow B 38 2 v acc.length (cellsOf acc)

theorem Own.below {w w' : World} {B K : Nat} {v : Value} {acc : List M} (h : Own w B v acc) (hb : Below K w w') (hK : w.heap.size ≤ K) : Own w' B v acc := by
  obtain ⟨h1, h2⟩ := h
  refine ⟨h1, ?_⟩
  rcases h2 with h2 | ⟨g, cap, cur, hv, hg, hh, r⟩
  · exact Or.inl h2
  · exact Or.inr ⟨g, cap, cur, hv, hg, (hb.block g (Nat.lt_of_lt_of_le (Array.getElem?_eq_some_iff.1 hh).1 hK)).trans hh, r⟩

theorem own_push {w0 wo X w1 : World} {B : Nat} {u v' : Value} {acc : List M} {q r : ByteArray} {o : Obj} (h : Own wo B u acc) (hX : Below wo.heap.size wo X) (hb : Below B w0 wo) (hB : B ≤ wo.heap.size)
    (h1 : w1.ownsRow B 38 2 v' (acc.length + 1) (cellsOf acc ++ [.string q, .string r])) (hg : (X.alloc o).grownBy w1 u.ownBlock) : Own w1 B v' (acc ++ [(q, r)]) ∧ Below B w0 w1 := by
  have hs := hX.size
  refine ⟨?_, ((hb.trans (hX.mono hB)).alloc (by omega) o).grown hg (by simp; omega) (fun k hk => ?_)⟩
  · unfold Own
    rw [cellsOf_append, List.length_append]
    exact h1
  · rcases h.2 with ⟨hv, _⟩ | ⟨g, cap, cur, hv, hg, _⟩
    · rw [hv] at hk; simp [Value.ownBlock] at hk
    · rw [hv] at hk; simp [Value.ownBlock] at hk; omega
theorem own_alloc {wo X : World} {B : Nat} {u : Value} {acc : List M} (h : Own wo B u acc) (hX : Below wo.heap.size wo X) (o : Obj) : (X.alloc o).ownsRow B 38 2 u acc.length (cellsOf acc) :=
  (h.below hX (Nat.le_refl _)).alloc o
theorem cell2_new (w : World) (x y : Value) (t : TypeId) (B : Nat) (hB : B = w.heap.size) : ∀ j u, [x, y][j]? = some u → (w.alloc (.cells #[x, y] t)).cell? ((⟨B, 0, none⟩ : Addr).add j) = some u := by
  subst hB
  intro j u hj
  match j, hj with
  | 0, hj => simp at hj; subst hj; simp [Addr.add]
  | 1, hj => simp at hj; subst hj; simp [Addr.add]
  | (j + 2), hj => simp at hj
theorem one2 (q r : ByteArray) : ∀ u ∈ [Value.string q, Value.string r], u.oneCell' = true := by
  intro u hu
  simp at hu
  rcases hu with rfl | rfl <;> rfl
theorem done_push {l : List M} {l2 : List (M × M)} {k : Nat} {p v q r : ByteArray} {acc : List M} (hd : acc ++ dl l2 (l.drop k) = dl l2 l) (hk : l[k]? = some (p, v)) (hp : pick (p, v) (p, v) l2 = (q, r)) (h : r.toList.isEmpty = false) :
    (acc ++ [(q, r)]) ++ dl l2 (l.drop (k + 1)) = dl l2 l := by
  rw [← hd, dl_step l2 hk, hp, sNil, h]
  simp
theorem done_skip {l : List M} {l2 : List (M × M)} {k : Nat} {p v q r : ByteArray} {acc : List M} (hd : acc ++ dl l2 (l.drop k) = dl l2 l) (hk : l[k]? = some (p, v)) (hp : pick (p, v) (p, v) l2 = (q, r)) (h : r.toList.isEmpty = true) :
    acc ++ dl l2 (l.drop (k + 1)) = dl l2 l := by
  rw [← hd, dl_step l2 hk, hp, sNil, h]
  simp

set_option maxHeartbeats 1000000 in
theorem downloads_any (fb : Nat) (ao ao2 : Option Addr) (n c n2 c2 : Nat) (l : List M) (l2 : List (M × M)) (b off b2 off2 : Nat) (w : World) (hl : l.length = n) (hl2 : l2.length = n2)
    (hn : n ≤ 4096) (hn2 : n2 ≤ 4097) (h : ModsAt w ao l b off) (h2 : RepsAt w ao2 l2 b2 off2) (hf0 : w.cell? ⟨fb, 0, none⟩ = some (.slice ao n c)) (hf1 : w.cell? ⟨fb, 1, none⟩ = some (.slice ao2 n2 c2)) :
    Calls Try.prog 9 #[.pointer (some ⟨fb, 0, none⟩)] w fun e w' => ∃ v, e = .returned v ∧ Own w' w.heap.size v (dl l2 l) ∧ Below w.heap.size w w' := by
  obtain ⟨i0, hi, hz0, hz1, hz2⟩ := info_parts info38
  have hfb : fb < w.heap.size := World.block_lt_of_cell? _ _ hf0
  go_enter Try.func9, Try.ntmps9
  go_wp2
  go_loopw [3, 14] (fun v i wr => ∃ (k : Nat) (acc : List M), k ≤ n ∧ i = .int .i64 k ∧ Own wr w.heap.size v acc ∧ acc.length ≤ k ∧ Below w.heap.size w wr ∧ acc ++ dl l2 (l.drop k) = dl l2 l) (fun _ i _ => n - (intOf i).toNat)
  case atStart => exact ⟨0, [], Nat.zero_le _, rfl, World.ownsRow_nil _ _ _ _, Nat.le_refl _, Below.refl _ _, rfl⟩
  case round =>
    obtain ⟨k, acc, hk, rfl, hown, hal, hb, hd⟩ := hrel
    have HO : Hid (Own wr w.heap.size u3 acc) := hown
    have HD : Hid (acc ++ dl l2 (l.drop k) = dl l2 l) := hd
    clear hown hd
    by_cases hlt : k < n
    · obtain ⟨p, v, hkv⟩ := at_mods (l := l) (k := k) (by omega)
      have HK : Hid (l[k]? = some (p, v)) := hkv
      have hix := fun w => ix27 (c := c) (b := b) (off := off) hlt (h.addr (by omega)) w
      obtain ⟨hc1, hc2⟩ := (h.on hb).cells k p v hkv
      have g0 := (hb.cell (p := ⟨fb, 0, none⟩) hfb).trans hf0
      have g1 := (hb.cell (p := ⟨fb, 1, none⟩) hfb).trans hf1
      have hsz := hb.size
      have hfb' : fb < wr.heap.size := by omega
      clear hkv
      go_wp2
      obtain ⟨wo, rfl⟩ : ∃ wo : World, wo = wr := ⟨_, rfl⟩
      go_loopw [24] (fun i wi => ∃ (j : Nat) (mp mv : ByteArray), j ≤ n2 ∧ i = .int .i64 j ∧ Two wi wo.heap.size 38 p v ∧ Two wi (wo.heap.size + 1) 38 mp mv ∧ Below wo.heap.size wo wi ∧ pick (p, v) (mp, mv) (l2.drop j) = pick (p, v) (p, v) l2) (fun i _ => n2 - (intOf i).toNat)
      case atStart => exact ⟨0, p, v, Nat.zero_le _, rfl, (Two.new _ _ _ _).alloc _, by have := Two.new (wo.alloc (Obj.cells #[Value.string p, Value.string v] 38)) 38 p v; simpa using this, ((Below.refl _ _).alloc (Nat.le_refl _) _).alloc (by simp) _, rfl⟩
      case round =>
        obtain ⟨j, mp, mv, hj, rfl, hT, hU, hbi, hp⟩ := hrel
        have HP : Hid (pick (p, v) (mp, mv) (l2.drop j) = pick (p, v) (p, v) l2) := hp
        have hsi := hbi.size
        have s0 := hT.lt
        have s1 := hU.lt
        have t0 := hT.c0
        have t1 := hT.c1
        have m0 := hU.c0
        have m1 := hU.c1
        have mf0 := hU.frozen 0
        have mf1 := hU.frozen 1
        have HT : Hid (Two wr wo.heap.size 38 p v) := hT
        have HU : Hid (Two wr (wo.heap.size + 1) 38 mp mv) := hU
        clear hp hT hU hix hc1 hc2 g0 g1
        by_cases hjl : j < n2
        · obtain ⟨rp, rv, rq, ru, hr⟩ := at_reps (l := l2) (k := j) (by omega)
          have hix := fun w => ix29 (c := c2) (b := b2) (off := off2) hjl (h2.addr (by omega)) w
          obtain ⟨d1, d2, d3, d4⟩ := (h2.on (hb.trans (hbi.mono hb.size))).cells j rp rv rq ru hr
          have HR : Hid (l2[j]? = some ((rp, rv), (rq, ru))) := hr
          clear hr
          cases e1 : (rp.toList == p.toList)
          · go_wp2
            go_roundw
            case rel => exact ⟨j + 1, mp, mv, by omega, by go_num, HT.out.alloc _, HU.out.alloc _, hbi.alloc hsi _, (pick_skip (req := (p, v)) HR.out e1).symm.trans HP.out⟩
            case measure => simp [intOf]; omega
          · cases e2 : (rv.toList == v.toList)
            · cases e3 : rv.toList.isEmpty
              · go_wp2
                go_roundw
                case rel => exact ⟨j + 1, mp, mv, by omega, by go_num, HT.out.alloc _, HU.out.alloc _, hbi.alloc hsi _, (pick_pass (req := (p, v)) HR.out e1 e2 e3).symm.trans HP.out⟩
                case measure => simp [intOf]; omega
              · go_wp2
                go_roundw
                case rel => exact ⟨j + 1, rq, ru, by omega, by go_num, ((HT.out.setOther (by simp) _).setOther (by simp) _).alloc _, (HU.out.set _ _).alloc _, ((hbi.setCell (by simp) _).setCell (by simp) _).alloc (by simp; omega) _, (pick_all (req := (p, v)) HR.out e1 e2 e3).symm.trans HP.out⟩
                case measure => simp [intOf]; omega
            · have hbY : Below wo.heap.size wo (((wr.setCell ⟨wo.heap.size + 1, 0, none⟩ (.string rq)).setCell ⟨wo.heap.size + 1, 1, none⟩ (.string ru)).alloc (.cells #[.string rp, .string rv, .string rq, .string ru] 42)) := ((hbi.setCell (by simp) _).setCell (by simp) _).alloc (by simp; omega) _
              cases e4 : ru.toList.isEmpty
              · have hbX := hbY
                have hpk := HP.out.symm.trans (pick_hit HR.out e1 e2)
                have HPK : Hid (pick (p, v) (p, v) l2 = (rq, ru)) := hpk
                clear hpk
                go_wp2_with (at_builtin; refine wpList_append_own _ rfl (.tmp 52) (.tmp 54) 27 rfl w.heap.size 38 i0 (.agg #[es, es]) 2 32 Try.underlying27 hi hz0 hz1 hz2 rfl (by decide) _ _ _ rfl (own_alloc HO.out hbX _) _ 1 1 [.string rq, .string ru] rfl rfl ?c1 (one2 _ _) (by unfold maxLen; omega) (by omega) ?c2 ?_)
                case c1 => exact cell2_new _ _ _ _ _ (by simp)
                case c2 => have := hbX.size; simp; omega
                intro v' w1 hown' hgrow _
                have R := own_push HO.out hbX hb hsz hown' hgrow
                clear hown' hgrow
                go_wp2
                go_roundw
                case rel => exact ⟨k + 1, acc ++ [(rq, ru)], by omega, by go_num, R.1, by simp; omega, R.2, done_push HD.out HK.out HPK.out e4⟩
                case measure => simp [intOf]; omega
              · have hbX := hbY
                have hpk := HP.out.symm.trans (pick_hit HR.out e1 e2)
                have HPK : Hid (pick (p, v) (p, v) l2 = (rq, ru)) := hpk
                clear hpk
                go_wp2
                go_roundw
                case rel => exact ⟨k + 1, acc, by omega, by go_num, HO.out.below hbX (Nat.le_refl _), by omega, hb.trans (hbX.mono hsz), done_skip HD.out HK.out HPK.out e4⟩
                case measure => simp [intOf]; omega
        · 
          cases e4 : mv.toList.isEmpty
          · have hbX := hbi
            have hpk := HP.out.symm.trans (pick_end (by omega))
            have HPK : Hid (pick (p, v) (p, v) l2 = (mp, mv)) := hpk
            clear hpk
            go_wp2_with (at_builtin; refine wpList_append_own _ rfl (.tmp 52) (.tmp 54) 27 rfl w.heap.size 38 i0 (.agg #[es, es]) 2 32 Try.underlying27 hi hz0 hz1 hz2 rfl (by decide) _ _ _ rfl (own_alloc HO.out hbX _) _ 1 1 [.string mp, .string mv] rfl rfl ?c1 (one2 _ _) (by unfold maxLen; omega) (by omega) ?c2 ?_)
            case c1 => exact cell2_new _ _ _ _ _ (by simp)
            case c2 => have := hbX.size; simp; omega
            intro v' w1 hown' hgrow _
            have R := own_push HO.out hbX hb hsz hown' hgrow
            clear hown' hgrow
            go_wp2
            go_roundw
            case rel => exact ⟨k + 1, acc ++ [(mp, mv)], by omega, by go_num, R.1, by simp; omega, R.2, done_push HD.out HK.out HPK.out e4⟩
            case measure => simp [intOf]; omega
          · have hbX := hbi
            have hpk := HP.out.symm.trans (pick_end (by omega))
            have HPK : Hid (pick (p, v) (p, v) l2 = (mp, mv)) := hpk
            clear hpk
            go_wp2
            go_roundw
            case rel => exact ⟨k + 1, acc, by omega, by go_num, HO.out.below hbX (Nat.le_refl _), by omega, hb.trans (hbX.mono hsz), done_skip HD.out HK.out HPK.out e4⟩
            case measure => simp [intOf]; omega
    · go_wp2
      go_ret
      obtain rfl : k = n := by omega
      have hd := HD.out
      rw [List.drop_eq_nil_of_le (by omega)] at hd
      simp only [dl, List.append_nil] at hd
      exact ⟨_, rfl, by rw [← hd]; exact HO.out, hb⟩

end Go.Proofs.Qxb6628959a
