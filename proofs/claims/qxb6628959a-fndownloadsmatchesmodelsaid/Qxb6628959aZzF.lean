/- Seat b6628959a: zzBytes of FrontExactReplacementWins returns a bool; nothing old turns. -/
import Derived.Test.Qxb6628959aBytes
namespace Go.Proofs.Qxb6628959a
open Go.RowKit

set_option maxHeartbeats 1000000 in
set_option maxRecDepth 100000 in
theorem zzBytesF_any (ao ao2 : Option Addr) (n c n2 c2 : Nat) (l : List M) (l2 : List (M × M)) (b off b2 off2 : Nat) (p0 v0 p1 v1 : ByteArray) (w : World) (hl : l.length = n) (hl2 : l2.length = n2)
    (h : ModsAt w ao l b off) (h2 : RepsAt w ao2 l2 b2 off2) :
    Calls Try.prog 11 #[.slice ao n c, .slice ao2 n2 c2, .agg #[.string p0, .string v0], .agg #[.string p1, .string v1]] w fun e w' => AnyBool e ∧ Below w.heap.size w w' := by
  have hB0 : Below w.heap.size w ((w.alloc (.cells #[.string p0, .string v0] 35)).alloc (.cells #[.string p1, .string v1] 35)) := ((Below.refl _ _).alloc (Nat.le_refl _) _).alloc (by simp) _
  have HB : Hid (Below w.heap.size w ((w.alloc (.cells #[.string p0, .string v0] 35)).alloc (.cells #[.string p1, .string v1] 35))) := hB0
  have h' := h.on hB0
  have h2' := h2.on hB0
  clear hB0
  go_enter Try.func11, Try.ntmps11
  go_wp2
  · go_ret
    exact ⟨anyBool _, HB.out⟩
  go_loop [9, 10] (fun t i => ∃ (k : Nat) (r : Int), k ≤ n ∧ i = .int .i64 k ∧ t = .int .i64 r) (fun _ i => n - (intOf i).toNat)
  case atStart => exact ⟨0, _, Nat.zero_le _, rfl, rfl⟩
  case round =>
    obtain ⟨k, r, hk, rfl, rfl⟩ := hrel
    by_cases hlt : k < n
    · obtain ⟨p, v, hkv⟩ := at_mods (l := l) (k := k) (by omega)
      have hix := fun w => ix22 (c := c) (b := b) (off := off) hlt (h.addr (by omega)) w
      obtain ⟨hc1, hc2⟩ := h'.cells k p v hkv
      go_wp2
      all_goals first
        | (go_round
           case rel => exact ⟨k + 1, _, by omega, by go_num, rfl⟩
           case measure => simp [intOf]; omega)
        | (go_ret
           exact ⟨anyBool _, HB.out⟩)
    · go_wp2
      · go_ret
        exact ⟨anyBool _, HB.out⟩
      · go_ret
        exact ⟨anyBool _, HB.out⟩
      go_loop [9, 11] (fun t i => ∃ (k : Nat) (r : Int), k ≤ n2 ∧ i = .int .i64 k ∧ t = .int .i64 r) (fun _ i => n2 - (intOf i).toNat)
      case atStart => exact ⟨0, _, Nat.zero_le _, rfl, rfl⟩
      case round =>
        obtain ⟨j, r2, hj, rfl, rfl⟩ := hrel
        by_cases hlt : j < n2
        · obtain ⟨p, v, q, u, hkv⟩ := at_reps (l := l2) (k := j) (by omega)
          have hix := fun w => ix23 (c := c2) (b := b2) (off := off2) hlt (h2.addr (by omega)) w
          obtain ⟨hc1, hc2, hc3, hc4⟩ := h2'.cells j p v q u hkv
          go_wp2
          all_goals first
            | (go_round
               case rel => exact ⟨j + 1, _, by omega, by go_num, rfl⟩
               case measure => simp [intOf]; omega)
            | (go_ret
               exact ⟨anyBool _, HB.out⟩)
        · go_wp2
          all_goals (go_ret; exact ⟨anyBool _, HB.out⟩)

end Go.Proofs.Qxb6628959a
