import Derived.Test.Qxb6605503aBase
namespace Go.Proofs.Qxb6605503a
open Go.RowKit

/-- The call has handed back some bool and left the world alone; where it is true, B holds. -/
def SomeBool (w : World) (B : Prop) (e : Ending) (w' : World) : Prop := ∃ r : Bool, e = .returned (.bool r) ∧ w' = w ∧ (r = true → B)

set_option maxHeartbeats 1000000 in
theorem bytes8 (a1 a2 a3 a4 : Option Addr) (n1 n2 n3 n4 c1 c2 c3 c4 : Nat) (S1 S3 : Nat → ByteArray) (w : World) (h1 : Strs w a1 n1 S1) (h3 : Strs w a3 n3 S3)
    (m1 : n1 ≤ maxLen) (m2 : n2 ≤ maxLen) (m3 : n3 ≤ maxLen) (m4 : n4 ≤ maxLen) :
    Calls Try.prog 8 #[.slice a1 n1 c1, .slice a2 n2 c2, .slice a3 n3 c3, .slice a4 n4 c4] w (SomeBool w (n1 ≤ 1048576 ∧ n2 ≤ 1048576 ∧ n3 ≤ 1048576 ∧ n4 ≤ 1048576)) := by
  unfold maxLen at m1 m2 m3 m4
  by_cases t1 : 1048576 < n1
  · go_enter Try.func8, Try.ntmps8
    go_wp2
    go_ret
    exact ⟨false, rfl, rfl, fun h => by cases h⟩
  go_enter Try.func8, Try.ntmps8
  go_wp2
  go_loop [9, 10] (fun z i => ∃ k : Nat, k ≤ n1 ∧ i = .int .i64 k ∧ ∃ q : Int, 0 ≤ q ∧ q ≤ 1048576 ∧ z = .int .i64 q) (fun _ i => n1 - (intOf i).toNat)
  case atStart => exact ⟨0, Nat.zero_le _, rfl, _, by omega, by omega, rfl⟩
  case round =>
    obtain ⟨k, hk, rfl, q, hq0, hq1, rfl⟩ := hrel
    by_cases hlt : k < n1
    · obtain ⟨b, off, rfl, hc⟩ := h1 (by omega)
      have hck := hc k hlt
      go_wp2
      all_goals first
        | (go_ret; exact ⟨false, rfl, rfl, fun h => by cases h⟩)
        | (go_round
           case rel => exact ⟨k + 1, by omega, by go_num, _, by omega, by omega, rfl⟩
           case measure => simp [intOf]; omega)
    · go_wp2
      all_goals first
        | (go_ret; exact ⟨false, rfl, rfl, fun h => by cases h⟩)
        | skip
      go_loop [9, 11] (fun z i => ∃ k : Nat, k ≤ n3 ∧ i = .int .i64 k ∧ ∃ q : Int, 0 ≤ q ∧ q ≤ 1048576 ∧ z = .int .i64 q) (fun _ i => n3 - (intOf i).toNat)
      case atStart => exact ⟨0, Nat.zero_le _, rfl, _, by omega, by omega, rfl⟩
      case round =>
        obtain ⟨k', hk', rfl, q', hq0', hq1', rfl⟩ := hrel
        by_cases hlt' : k' < n3
        · obtain ⟨b, off, rfl, hc⟩ := h3 (by omega)
          have hck := hc k' hlt'
          go_wp2
          all_goals first
            | (go_ret; exact ⟨false, rfl, rfl, fun h => by cases h⟩)
            | (go_round
               case rel => exact ⟨k' + 1, by omega, by go_num, _, by omega, by omega, rfl⟩
               case measure => simp [intOf]; omega)
        · go_wp2
          all_goals first
            | (go_ret; exact ⟨false, rfl, rfl, fun h => by cases h⟩)
            | (go_ret; exact ⟨true, rfl, rfl, fun _ => by omega⟩)

set_option maxHeartbeats 1000000 in
theorem bytes13 (a1 a2 a3 a4 : Option Addr) (n1 n2 n3 n4 c1 c2 c3 c4 : Nat) (S1 S3 : Nat → ByteArray) (w : World) (h1 : Strs w a1 n1 S1) (h3 : Strs w a3 n3 S3)
    (m1 : n1 ≤ maxLen) (m2 : n2 ≤ maxLen) (m3 : n3 ≤ maxLen) (m4 : n4 ≤ maxLen) :
    Calls Try.prog 13 #[.slice a1 n1 c1, .slice a2 n2 c2, .slice a3 n3 c3, .slice a4 n4 c4] w (SomeBool w (n1 ≤ 1048576 ∧ n2 ≤ 1048576 ∧ n3 ≤ 1048576 ∧ n4 ≤ 1048576)) := by
  unfold maxLen at m1 m2 m3 m4
  by_cases t1 : 1048576 < n1
  · go_enter Try.func13, Try.ntmps13
    go_wp2
    go_ret
    exact ⟨false, rfl, rfl, fun h => by cases h⟩
  go_enter Try.func13, Try.ntmps13
  go_wp2
  go_loop [9, 10] (fun z i => ∃ k : Nat, k ≤ n1 ∧ i = .int .i64 k ∧ ∃ q : Int, 0 ≤ q ∧ q ≤ 1048576 ∧ z = .int .i64 q) (fun _ i => n1 - (intOf i).toNat)
  case atStart => exact ⟨0, Nat.zero_le _, rfl, _, by omega, by omega, rfl⟩
  case round =>
    obtain ⟨k, hk, rfl, q, hq0, hq1, rfl⟩ := hrel
    by_cases hlt : k < n1
    · obtain ⟨b, off, rfl, hc⟩ := h1 (by omega)
      have hck := hc k hlt
      go_wp2
      all_goals first
        | (go_ret; exact ⟨false, rfl, rfl, fun h => by cases h⟩)
        | (go_round
           case rel => exact ⟨k + 1, by omega, by go_num, _, by omega, by omega, rfl⟩
           case measure => simp [intOf]; omega)
    · go_wp2
      all_goals first
        | (go_ret; exact ⟨false, rfl, rfl, fun h => by cases h⟩)
        | skip
      go_loop [9, 11] (fun z i => ∃ k : Nat, k ≤ n3 ∧ i = .int .i64 k ∧ ∃ q : Int, 0 ≤ q ∧ q ≤ 1048576 ∧ z = .int .i64 q) (fun _ i => n3 - (intOf i).toNat)
      case atStart => exact ⟨0, Nat.zero_le _, rfl, _, by omega, by omega, rfl⟩
      case round =>
        obtain ⟨k', hk', rfl, q', hq0', hq1', rfl⟩ := hrel
        by_cases hlt' : k' < n3
        · obtain ⟨b, off, rfl, hc⟩ := h3 (by omega)
          have hck := hc k' hlt'
          go_wp2
          all_goals first
            | (go_ret; exact ⟨false, rfl, rfl, fun h => by cases h⟩)
            | (go_round
               case rel => exact ⟨k' + 1, by omega, by go_num, _, by omega, by omega, rfl⟩
               case measure => simp [intOf]; omega)
        · go_wp2
          all_goals first
            | (go_ret; exact ⟨false, rfl, rfl, fun h => by cases h⟩)
            | (go_ret; exact ⟨true, rfl, rfl, fun _ => by omega⟩)

set_option maxHeartbeats 1000000 in
theorem bytes18 (a1 a2 a3 a4 : Option Addr) (n1 n2 n3 n4 c1 c2 c3 c4 : Nat) (S1 S3 : Nat → ByteArray) (w : World) (h1 : Strs w a1 n1 S1) (h3 : Strs w a3 n3 S3)
    (m1 : n1 ≤ maxLen) (m2 : n2 ≤ maxLen) (m3 : n3 ≤ maxLen) (m4 : n4 ≤ maxLen) :
    Calls Try.prog 18 #[.slice a1 n1 c1, .slice a2 n2 c2, .slice a3 n3 c3, .slice a4 n4 c4] w (SomeBool w (n1 ≤ 1048576 ∧ n2 ≤ 1048576 ∧ n3 ≤ 1048576 ∧ n4 ≤ 1048576)) := by
  unfold maxLen at m1 m2 m3 m4
  by_cases t1 : 1048576 < n1
  · go_enter Try.func18, Try.ntmps18
    go_wp2
    go_ret
    exact ⟨false, rfl, rfl, fun h => by cases h⟩
  go_enter Try.func18, Try.ntmps18
  go_wp2
  go_loop [9, 10] (fun z i => ∃ k : Nat, k ≤ n1 ∧ i = .int .i64 k ∧ ∃ q : Int, 0 ≤ q ∧ q ≤ 1048576 ∧ z = .int .i64 q) (fun _ i => n1 - (intOf i).toNat)
  case atStart => exact ⟨0, Nat.zero_le _, rfl, _, by omega, by omega, rfl⟩
  case round =>
    obtain ⟨k, hk, rfl, q, hq0, hq1, rfl⟩ := hrel
    by_cases hlt : k < n1
    · obtain ⟨b, off, rfl, hc⟩ := h1 (by omega)
      have hck := hc k hlt
      go_wp2
      all_goals first
        | (go_ret; exact ⟨false, rfl, rfl, fun h => by cases h⟩)
        | (go_round
           case rel => exact ⟨k + 1, by omega, by go_num, _, by omega, by omega, rfl⟩
           case measure => simp [intOf]; omega)
    · go_wp2
      all_goals first
        | (go_ret; exact ⟨false, rfl, rfl, fun h => by cases h⟩)
        | skip
      go_loop [9, 11] (fun z i => ∃ k : Nat, k ≤ n3 ∧ i = .int .i64 k ∧ ∃ q : Int, 0 ≤ q ∧ q ≤ 1048576 ∧ z = .int .i64 q) (fun _ i => n3 - (intOf i).toNat)
      case atStart => exact ⟨0, Nat.zero_le _, rfl, _, by omega, by omega, rfl⟩
      case round =>
        obtain ⟨k', hk', rfl, q', hq0', hq1', rfl⟩ := hrel
        by_cases hlt' : k' < n3
        · obtain ⟨b, off, rfl, hc⟩ := h3 (by omega)
          have hck := hc k' hlt'
          go_wp2
          all_goals first
            | (go_ret; exact ⟨false, rfl, rfl, fun h => by cases h⟩)
            | (go_round
               case rel => exact ⟨k' + 1, by omega, by go_num, _, by omega, by omega, rfl⟩
               case measure => simp [intOf]; omega)
        · go_wp2
          all_goals first
            | (go_ret; exact ⟨false, rfl, rfl, fun h => by cases h⟩)
            | (go_ret; exact ⟨true, rfl, rfl, fun _ => by omega⟩)

set_option maxHeartbeats 1000000 in
theorem bytes22 (a1 a2 a3 a4 : Option Addr) (n1 n2 n3 n4 c1 c2 c3 c4 : Nat) (S1 S3 : Nat → ByteArray) (w : World) (h1 : Strs w a1 n1 S1) (h3 : Strs w a3 n3 S3)
    (m1 : n1 ≤ maxLen) (m2 : n2 ≤ maxLen) (m3 : n3 ≤ maxLen) (m4 : n4 ≤ maxLen) :
    Calls Try.prog 22 #[.slice a1 n1 c1, .slice a2 n2 c2, .slice a3 n3 c3, .slice a4 n4 c4] w (SomeBool w (n1 ≤ 1048576 ∧ n2 ≤ 1048576 ∧ n3 ≤ 1048576 ∧ n4 ≤ 1048576)) := by
  unfold maxLen at m1 m2 m3 m4
  by_cases t1 : 1048576 < n1
  · go_enter Try.func22, Try.ntmps22
    go_wp2
    go_ret
    exact ⟨false, rfl, rfl, fun h => by cases h⟩
  go_enter Try.func22, Try.ntmps22
  go_wp2
  go_loop [9, 10] (fun z i => ∃ k : Nat, k ≤ n1 ∧ i = .int .i64 k ∧ ∃ q : Int, 0 ≤ q ∧ q ≤ 1048576 ∧ z = .int .i64 q) (fun _ i => n1 - (intOf i).toNat)
  case atStart => exact ⟨0, Nat.zero_le _, rfl, _, by omega, by omega, rfl⟩
  case round =>
    obtain ⟨k, hk, rfl, q, hq0, hq1, rfl⟩ := hrel
    by_cases hlt : k < n1
    · obtain ⟨b, off, rfl, hc⟩ := h1 (by omega)
      have hck := hc k hlt
      go_wp2
      all_goals first
        | (go_ret; exact ⟨false, rfl, rfl, fun h => by cases h⟩)
        | (go_round
           case rel => exact ⟨k + 1, by omega, by go_num, _, by omega, by omega, rfl⟩
           case measure => simp [intOf]; omega)
    · go_wp2
      all_goals first
        | (go_ret; exact ⟨false, rfl, rfl, fun h => by cases h⟩)
        | skip
      go_loop [9, 11] (fun z i => ∃ k : Nat, k ≤ n3 ∧ i = .int .i64 k ∧ ∃ q : Int, 0 ≤ q ∧ q ≤ 1048576 ∧ z = .int .i64 q) (fun _ i => n3 - (intOf i).toNat)
      case atStart => exact ⟨0, Nat.zero_le _, rfl, _, by omega, by omega, rfl⟩
      case round =>
        obtain ⟨k', hk', rfl, q', hq0', hq1', rfl⟩ := hrel
        by_cases hlt' : k' < n3
        · obtain ⟨b, off, rfl, hc⟩ := h3 (by omega)
          have hck := hc k' hlt'
          go_wp2
          all_goals first
            | (go_ret; exact ⟨false, rfl, rfl, fun h => by cases h⟩)
            | (go_round
               case rel => exact ⟨k' + 1, by omega, by go_num, _, by omega, by omega, rfl⟩
               case measure => simp [intOf]; omega)
        · go_wp2
          all_goals first
            | (go_ret; exact ⟨false, rfl, rfl, fun h => by cases h⟩)
            | (go_ret; exact ⟨true, rfl, rfl, fun _ => by omega⟩)

set_option maxHeartbeats 1000000 in
theorem bytes24 (a1 a2 a3 a4 : Option Addr) (n1 n2 n3 n4 c1 c2 c3 c4 : Nat) (S1 S3 : Nat → ByteArray) (w : World) (h1 : Strs w a1 n1 S1) (h3 : Strs w a3 n3 S3)
    (m1 : n1 ≤ maxLen) (m2 : n2 ≤ maxLen) (m3 : n3 ≤ maxLen) (m4 : n4 ≤ maxLen) :
    Calls Try.prog 24 #[.slice a1 n1 c1, .slice a2 n2 c2, .slice a3 n3 c3, .slice a4 n4 c4] w (SomeBool w (n1 ≤ 1048576 ∧ n2 ≤ 1048576 ∧ n3 ≤ 1048576 ∧ n4 ≤ 1048576)) := by
  unfold maxLen at m1 m2 m3 m4
  by_cases t1 : 1048576 < n1
  · go_enter Try.func24, Try.ntmps24
    go_wp2
    go_ret
    exact ⟨false, rfl, rfl, fun h => by cases h⟩
  go_enter Try.func24, Try.ntmps24
  go_wp2
  go_loop [9, 10] (fun z i => ∃ k : Nat, k ≤ n1 ∧ i = .int .i64 k ∧ ∃ q : Int, 0 ≤ q ∧ q ≤ 1048576 ∧ z = .int .i64 q) (fun _ i => n1 - (intOf i).toNat)
  case atStart => exact ⟨0, Nat.zero_le _, rfl, _, by omega, by omega, rfl⟩
  case round =>
    obtain ⟨k, hk, rfl, q, hq0, hq1, rfl⟩ := hrel
    by_cases hlt : k < n1
    · obtain ⟨b, off, rfl, hc⟩ := h1 (by omega)
      have hck := hc k hlt
      go_wp2
      all_goals first
        | (go_ret; exact ⟨false, rfl, rfl, fun h => by cases h⟩)
        | (go_round
           case rel => exact ⟨k + 1, by omega, by go_num, _, by omega, by omega, rfl⟩
           case measure => simp [intOf]; omega)
    · go_wp2
      all_goals first
        | (go_ret; exact ⟨false, rfl, rfl, fun h => by cases h⟩)
        | skip
      go_loop [9, 11] (fun z i => ∃ k : Nat, k ≤ n3 ∧ i = .int .i64 k ∧ ∃ q : Int, 0 ≤ q ∧ q ≤ 1048576 ∧ z = .int .i64 q) (fun _ i => n3 - (intOf i).toNat)
      case atStart => exact ⟨0, Nat.zero_le _, rfl, _, by omega, by omega, rfl⟩
      case round =>
        obtain ⟨k', hk', rfl, q', hq0', hq1', rfl⟩ := hrel
        by_cases hlt' : k' < n3
        · obtain ⟨b, off, rfl, hc⟩ := h3 (by omega)
          have hck := hc k' hlt'
          go_wp2
          all_goals first
            | (go_ret; exact ⟨false, rfl, rfl, fun h => by cases h⟩)
            | (go_round
               case rel => exact ⟨k' + 1, by omega, by go_num, _, by omega, by omega, rfl⟩
               case measure => simp [intOf]; omega)
        · go_wp2
          all_goals first
            | (go_ret; exact ⟨false, rfl, rfl, fun h => by cases h⟩)
            | (go_ret; exact ⟨true, rfl, rfl, fun _ => by omega⟩)

set_option maxHeartbeats 1000000 in
theorem toobig (a1 a2 a3 a4 : Option Addr) (n1 n2 n3 n4 c1 c2 c3 c4 : Nat) (S1 S3 : Nat → ByteArray) (w : World) (h1 : Strs w a1 n1 S1) (h3 : Strs w a3 n3 S3)
    (m1 : n1 ≤ 1048576) (m2 : n2 ≤ 1048576) (m3 : n3 ≤ 1048576) (m4 : n4 ≤ 1048576) :
    Calls Try.prog 9 #[.slice a1 n1 c1, .slice a2 n2 c2, .slice a3 n3 c3, .slice a4 n4 c4] w (SomeBool w True) := by
  by_cases t1 : (65536 : Int) < n1
  · go_enter Try.func9, Try.ntmps9
    go_wp2
    go_ret
    exact ⟨true, rfl, rfl, fun _ => trivial⟩
  by_cases t2 : (65536 : Int) < n2
  · go_enter Try.func9, Try.ntmps9
    go_wp2
    go_ret
    exact ⟨true, rfl, rfl, fun _ => trivial⟩
  by_cases t3 : (65536 : Int) < n3
  · go_enter Try.func9, Try.ntmps9
    go_wp2
    go_ret
    exact ⟨true, rfl, rfl, fun _ => trivial⟩
  by_cases t4 : (65536 : Int) < n4
  · go_enter Try.func9, Try.ntmps9
    go_wp2
    go_ret
    exact ⟨true, rfl, rfl, fun _ => trivial⟩
  go_enter Try.func9, Try.ntmps9
  go_wp2
  go_loop [9, 10] (fun z i => ∃ k : Nat, k ≤ n1 ∧ i = .int .i64 k ∧ ∃ q : Int, 0 ≤ q ∧ q ≤ 5048576 ∧ z = .int .i64 q) (fun _ i => n1 - (intOf i).toNat)
  case atStart => exact ⟨0, Nat.zero_le _, rfl, _, by omega, by omega, rfl⟩
  case round =>
    obtain ⟨k, hk, rfl, q, hq0, hq1, rfl⟩ := hrel
    by_cases hlt : k < n1
    · obtain ⟨b, off, rfl, hc⟩ := h1 (by omega)
      have hck := hc k hlt
      go_wp2
      all_goals first
        | (go_ret; exact ⟨true, rfl, rfl, fun _ => trivial⟩)
        | (go_round
           case rel => exact ⟨k + 1, by omega, by go_num, _, by omega, by omega, rfl⟩
           case measure => simp [intOf]; omega)
    · go_wp2
      go_loop [9, 11] (fun z i => ∃ k : Nat, k ≤ n3 ∧ i = .int .i64 k ∧ ∃ q : Int, 0 ≤ q ∧ q ≤ 5048576 ∧ z = .int .i64 q) (fun _ i => n3 - (intOf i).toNat)
      case atStart => exact ⟨0, Nat.zero_le _, rfl, _, by omega, by omega, rfl⟩
      case round =>
        obtain ⟨k', hk', rfl, q', hq0', hq1', rfl⟩ := hrel
        by_cases hlt' : k' < n3
        · obtain ⟨b, off, rfl, hc⟩ := h3 (by omega)
          have hck := hc k' hlt'
          go_wp2
          all_goals first
            | (go_ret; exact ⟨true, rfl, rfl, fun _ => trivial⟩)
            | (go_round
               case rel => exact ⟨k' + 1, by omega, by go_num, _, by omega, by omega, rfl⟩
               case measure => simp [intOf]; omega)
        · go_wp2
          go_ret
          exact ⟨_, rfl, rfl, fun _ => trivial⟩
end Go.Proofs.Qxb6605503a
