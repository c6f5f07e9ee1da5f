/- Seat b6628959a: bytesUsed and the two zzBytes: each returns something; nothing old turns. -/
import Derived.Test.Qxb6628959aBase
import Derived.Test.Qxb6628959aSmall
namespace Go.Proofs.Qxb6628959a
open Go.RowKit

set_option maxHeartbeats 1000000 in
theorem bytesUsed_any (st : Int) (ao ao2 : Option Addr) (n c n2 c2 : Nat) (l : List M) (l2 : List (M × M)) (b off b2 off2 : Nat) (w : World) (hl : l.length = n) (hl2 : l2.length = n2)
    (h : ModsAt w ao l b off) (h2 : RepsAt w ao2 l2 b2 off2) (hn : n ≤ 4096) (hn2 : n2 ≤ 4096) :
    Calls Try.prog 6 #[.int .i64 st, .slice ao n c, .slice ao2 n2 c2] w fun e w' => (∃ r : Int, e = .returned (.int .i64 r)) ∧ Below w.heap.size w w' := by
  go_enter Try.func6, Try.ntmps6
  go_wp2
  go_loopw [7, 8] (fun t i wr => ∃ (k : Nat) (r : Int), k ≤ n ∧ i = .int .i64 k ∧ t = .int .i64 r ∧ Below w.heap.size w wr) (fun _ i _ => n - (intOf i).toNat)
  case atStart => exact ⟨0, st, Nat.zero_le _, rfl, rfl, Below.refl _ _⟩
  case round =>
    obtain ⟨k, r, hk, rfl, rfl, hb⟩ := hrel
    by_cases hlt : k < n
    · obtain ⟨p, v, hkv⟩ := at_mods (l := l) (k := k) (by omega)
      have hix := fun w => ix22 (c := c) (b := b) (off := off) hlt (h.addr (by omega)) w
      obtain ⟨hc1, hc2⟩ := (h.on hb).cells k p v hkv
      go_wp2_with (go_at_call 12; refine (addMod_any _ _ _ _).mono ?_; rintro e w1 ⟨⟨r, rfl⟩, hb1⟩)
      all_goals first
        | (go_roundw
           case rel => exact ⟨k + 1, _, by omega, by go_num, rfl, hb.trans (hb1.mono hb.size)⟩
           case measure => simp [intOf]; omega)
        | (go_ret
           exact ⟨⟨_, rfl⟩, hb.trans (hb1.mono hb.size)⟩)
    · go_wp2
      obtain ⟨wo, rfl⟩ : ∃ wo : World, wo = wr := ⟨_, rfl⟩
      go_loopw [7, 9] (fun t i wr => ∃ (k : Nat) (r : Int), k ≤ n2 ∧ i = .int .i64 k ∧ t = .int .i64 r ∧ Below w.heap.size w wr) (fun _ i _ => n2 - (intOf i).toNat)
      case atStart => exact ⟨0, r, Nat.zero_le _, rfl, rfl, hb⟩
      case round =>
        clear hb
        obtain ⟨j, r2, hj, rfl, rfl, hb⟩ := hrel
        by_cases hlt : j < n2
        · obtain ⟨p, v, q, u, hkv⟩ := at_reps (l := l2) (k := j) (by omega)
          have hix := fun w => ix23 (c := c2) (b := b2) (off := off2) hlt (h2.addr (by omega)) w
          have hB := h2.lt (by omega)
          obtain ⟨hc1, hc2, hc3, hc4⟩ := h2.cells j p v q u hkv
          have g1 := (hb.cell (p := ⟨b2, off2 + j * 4, none⟩) hB).trans hc1
          have g2 := (hb.cell (p := ⟨b2, off2 + j * 4 + 1, none⟩) hB).trans hc2
          have tok : True := trivial
          go_wp2_with (first
            | (go_at_call 12; have _t := tok; refine (addMod_any _ _ _ _).mono ?_; rintro e w1 ⟨⟨r3, rfl⟩, hb1⟩; clear tok; have hb' := hb.trans (hb1.mono hb.size); have g3 := (hb'.cell (p := ⟨b2, off2 + j * 4 + 2, none⟩) hB).trans hc3; have g4 := (hb'.cell (p := ⟨b2, off2 + j * 4 + 3, none⟩) hB).trans hc4)
            | (go_at_call 12; refine (addMod_any _ _ _ _).mono ?_; rintro e w2 ⟨⟨r4, rfl⟩, hb2⟩))
          all_goals first
            | (go_roundw
               case rel => exact ⟨j + 1, _, by omega, by go_num, rfl, hb'.trans (hb2.mono hb'.size)⟩
               case measure => simp [intOf]; omega)
            | (go_ret
               exact ⟨⟨_, rfl⟩, hb'⟩)
            | (go_ret
               exact ⟨⟨_, rfl⟩, hb'.trans (hb2.mono hb'.size)⟩)
        · go_wp2
          go_ret
          exact ⟨⟨_, rfl⟩, hb⟩

/-- A bool came back, whichever. -/
def AnyBool (e : Ending) : Prop := ∃ r : Bool, e = .returned (.bool r)
theorem anyBool (r : Bool) : AnyBool (.returned (.bool r)) := ⟨r, rfl⟩

end Go.Proofs.Qxb6628959a
