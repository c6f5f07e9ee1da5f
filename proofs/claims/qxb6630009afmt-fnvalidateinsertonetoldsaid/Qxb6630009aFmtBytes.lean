/- Seat b6630009aF: zzBytesOK and the two zzBytes: they return; the world stays. -/
import Derived.Test.Qxb6630009aFmtFilter
namespace Go.Proofs.Qxb6630009aFmt
open Go.RowKit Go.Extern.Stop Go.Stop Go.Extern

def OkRes (P : Prop) (e : Ending) : Prop := e = .returned (.bool false) ∨ (e = .returned (.bool true) ∧ P)

set_option maxHeartbeats 1000000 in
set_option maxRecDepth 100000 in
theorem zzBytesOK_any (s1 s2 s3 : ByteArray) (ao ao2 : Option Addr) (n c b off n2 c2 b2 off2 : Nat) (l l2 : List ByteArray) (w : World) (hl : l.length = n) (h : StrsAt w ao l b off) (hl2 : l2.length = n2) (h2 : StrsAt w ao2 l2 b2 off2) :
    Calls Tryf.prog 6 #[.string s1, .string s2, .string s3, .slice ao n c, .slice ao2 n2 c2] w fun e w' => OkRes (n ≤ 131072 ∧ n2 ≤ 131072) e ∧ w' = w := by
  by_cases hs1 : s1.size ≤ 1048576
  rotate_left
  · go_enter Tryf.func6, Tryf.ntmps6
    go_wp2
    go_ret
    exact ⟨Or.inl rfl, rfl⟩
  by_cases hs2 : s2.size ≤ 1048576
  rotate_left
  · go_enter Tryf.func6, Tryf.ntmps6
    go_wp2
    go_ret
    exact ⟨Or.inl rfl, rfl⟩
  by_cases hs3 : s3.size ≤ 1048576
  rotate_left
  · go_enter Tryf.func6, Tryf.ntmps6
    go_wp2
    go_ret
    exact ⟨Or.inl rfl, rfl⟩
  by_cases hn : n ≤ 131072
  rotate_left
  · go_enter Tryf.func6, Tryf.ntmps6
    go_wp2
    all_goals go_ret
    all_goals exact ⟨Or.inl rfl, rfl⟩
  by_cases hn2 : n2 ≤ 131072
  rotate_left
  · go_enter Tryf.func6, Tryf.ntmps6
    go_wp2
    all_goals go_ret
    all_goals exact ⟨Or.inl rfl, rfl⟩
  go_enter Tryf.func6, Tryf.ntmps6
  go_wp2
  all_goals first
    | (go_ret; exact ⟨Or.inl rfl, rfl⟩)
    | skip
  go_loop [11, 12] (fun t i => ∃ (k : Nat) (r : Int), k ≤ n ∧ i = .int .i64 k ∧ t = .int .i64 r) (fun _ i => n - (intOf i).toNat)
  case atStart => exact ⟨0, _, Nat.zero_le _, rfl, rfl⟩
  case round =>
    obtain ⟨k, r, hk, rfl, rfl⟩ := hrel
    by_cases hlt : k < n
    · obtain ⟨s, _, _, hsc⟩ := h.at (k := k) (by omega)
      have hix := fun w => ix22 (c := c) (b := b) (off := off) hlt (h.addr (by omega)) w
      go_wp2
      all_goals first
        | (go_round
           case rel => exact ⟨k + 1, _, by omega, by go_num, rfl⟩
           case measure => simp [intOf]; omega)
        | (go_ret
           exact ⟨Or.inl rfl, rfl⟩)
    · go_wp2
      all_goals first
        | (go_ret; exact ⟨Or.inl rfl, rfl⟩)
        | skip
      go_loop [11, 13] (fun t i => ∃ (k : Nat) (r : Int), k ≤ n2 ∧ i = .int .i64 k ∧ t = .int .i64 r) (fun _ i => n2 - (intOf i).toNat)
      case atStart => exact ⟨0, _, Nat.zero_le _, rfl, rfl⟩
      case round =>
        obtain ⟨j, r2, hj, rfl, rfl⟩ := hrel
        by_cases hlt : j < n2
        · obtain ⟨s, _, _, hsc⟩ := h2.at (k := j) (by omega)
          have hix := fun w => ix22 (c := c2) (b := b2) (off := off2) hlt (h2.addr (by omega)) w
          go_wp2
          all_goals first
            | (go_round
               case rel => exact ⟨j + 1, _, by omega, by go_num, rfl⟩
               case measure => simp [intOf]; omega)
            | (go_ret
               exact ⟨Or.inl rfl, rfl⟩)
        · go_wp2
          all_goals (go_ret; exact ⟨Or.inr ⟨rfl, by first | trivial | exact ⟨by omega, by omega⟩⟩, rfl⟩)

/-- A bool came back, whichever. -/
def AnyBool (e : Ending) : Prop := ∃ r : Bool, e = .returned (.bool r)
theorem anyBool (r : Bool) : AnyBool (.returned (.bool r)) := ⟨r, rfl⟩

set_option maxHeartbeats 1000000 in
set_option maxRecDepth 100000 in
theorem zzBytesT_any (s1 : ByteArray) (ao ao2 : Option Addr) (n c b off n2 c2 b2 off2 : Nat) (l l2 : List ByteArray) (w : World) (hl : l.length = n) (h : StrsAt w ao l b off) (hl2 : l2.length = n2) (h2 : StrsAt w ao2 l2 b2 off2) :
    Calls Tryf.prog 5 #[.string s1, .slice ao n c, .slice ao2 n2 c2] w fun e w' => AnyBool e ∧ w' = w := by
  go_enter Tryf.func5, Tryf.ntmps5
  go_wp2
  all_goals first
    | (go_ret; exact ⟨anyBool _, rfl⟩)
    | skip
  go_loop [7, 8] (fun t i => ∃ (k : Nat) (r : Int), k ≤ n ∧ i = .int .i64 k ∧ t = .int .i64 r) (fun _ i => n - (intOf i).toNat)
  case atStart => exact ⟨0, _, Nat.zero_le _, rfl, rfl⟩
  case round =>
    obtain ⟨k, r, hk, rfl, rfl⟩ := hrel
    by_cases hlt : k < n
    · obtain ⟨s, _, _, hsc⟩ := h.at (k := k) (by omega)
      have hix := fun w => ix22 (c := c) (b := b) (off := off) hlt (h.addr (by omega)) w
      go_wp2
      all_goals first
        | (go_round
           case rel => exact ⟨k + 1, _, by omega, by go_num, rfl⟩
           case measure => simp [intOf]; omega)
        | (go_ret
           exact ⟨anyBool _, rfl⟩)
    · go_wp2
      all_goals first
        | (go_ret; exact ⟨anyBool _, rfl⟩)
        | skip
      go_loop [7, 9] (fun t i => ∃ (k : Nat) (r : Int), k ≤ n2 ∧ i = .int .i64 k ∧ t = .int .i64 r) (fun _ i => n2 - (intOf i).toNat)
      case atStart => exact ⟨0, _, Nat.zero_le _, rfl, rfl⟩
      case round =>
        obtain ⟨j, r2, hj, rfl, rfl⟩ := hrel
        by_cases hlt : j < n2
        · obtain ⟨s, _, _, hsc⟩ := h2.at (k := j) (by omega)
          have hix := fun w => ix22 (c := c2) (b := b2) (off := off2) hlt (h2.addr (by omega)) w
          go_wp2
          all_goals first
            | (go_round
               case rel => exact ⟨j + 1, _, by omega, by go_num, rfl⟩
               case measure => simp [intOf]; omega)
            | (go_ret
               exact ⟨anyBool _, rfl⟩)
        · go_wp2
          all_goals (go_ret; exact ⟨anyBool _, rfl⟩)

set_option maxHeartbeats 1000000 in
set_option maxRecDepth 100000 in
theorem zzBytesI_any (s1 s2 s3 : ByteArray) (p q : Int) (ao ao2 : Option Addr) (n c b off n2 c2 b2 off2 : Nat) (l l2 : List ByteArray) (w : World) (hl : l.length = n) (h : StrsAt w ao l b off) (hl2 : l2.length = n2) (h2 : StrsAt w ao2 l2 b2 off2) :
    Calls Tryf.prog 9 #[.string s1, .slice ao n c, .slice ao2 n2 c2, .string s2, .string s3, .int .i64 p, .int .i64 q] w fun e w' => AnyBool e ∧ w' = w := by
  go_enter Tryf.func9, Tryf.ntmps9
  go_wp2
  all_goals first
    | (go_ret; exact ⟨anyBool _, rfl⟩)
    | skip
  go_loop [15, 16] (fun t i => ∃ (k : Nat) (r : Int), k ≤ n ∧ i = .int .i64 k ∧ t = .int .i64 r) (fun _ i => n - (intOf i).toNat)
  case atStart => exact ⟨0, _, Nat.zero_le _, rfl, rfl⟩
  case round =>
    obtain ⟨k, r, hk, rfl, rfl⟩ := hrel
    by_cases hlt : k < n
    · obtain ⟨s, _, _, hsc⟩ := h.at (k := k) (by omega)
      have hix := fun w => ix22 (c := c) (b := b) (off := off) hlt (h.addr (by omega)) w
      go_wp2
      all_goals first
        | (go_round
           case rel => exact ⟨k + 1, _, by omega, by go_num, rfl⟩
           case measure => simp [intOf]; omega)
        | (go_ret
           exact ⟨anyBool _, rfl⟩)
    · go_wp2
      all_goals first
        | (go_ret; exact ⟨anyBool _, rfl⟩)
        | skip
      go_loop [15, 17] (fun t i => ∃ (k : Nat) (r : Int), k ≤ n2 ∧ i = .int .i64 k ∧ t = .int .i64 r) (fun _ i => n2 - (intOf i).toNat)
      case atStart => exact ⟨0, _, Nat.zero_le _, rfl, rfl⟩
      case round =>
        obtain ⟨j, r2, hj, rfl, rfl⟩ := hrel
        by_cases hlt : j < n2
        · obtain ⟨s, _, _, hsc⟩ := h2.at (k := j) (by omega)
          have hix := fun w => ix22 (c := c2) (b := b2) (off := off2) hlt (h2.addr (by omega)) w
          go_wp2
          all_goals first
            | (go_round
               case rel => exact ⟨j + 1, _, by omega, by go_num, rfl⟩
               case measure => simp [intOf]; omega)
            | (go_ret
               exact ⟨anyBool _, rfl⟩)
        · go_wp2
          all_goals (go_ret; exact ⟨anyBool _, rfl⟩)

end Go.Proofs.Qxb6630009aFmt
