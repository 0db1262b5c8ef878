import Derived.Test.Qxb6605503aModel
namespace Go.Proofs.Qxb6605503a
open Go.RowKit

/-- zzRelationModel's answer. -/
def ModelIs (w : World) (n1 : Nat) (S1 : Nat → ByteArray) (C1 : Nat → Int) (n2 : Nat) (S2 : Nat → ByteArray) (C2 : Nat → Int) (e : Ending) (w' : World) : Prop :=
  w' = w ∧ ∃ b a : Bool, e = .returned (.int .i64 (relCode b a)) ∧ (b = true ↔ BelowP n1 S1 C1 n2 S2 C2) ∧ (a = true ↔ BelowP n2 S2 C2 n1 S1 C1)

theorem model_below {n1 S1 C1 n2 S2 C2} {b b1 : Bool} (s1 : Sorted n1 S1) (s2 : Sorted n2 S2) (p1 : ∀ i, i < n1 → 0 ≤ C1 i) (h1 : StepB b1 false n1 (fun x => C1 x < look n2 S2 C2 (S1 x))) (h2 : StepB b b1 n2 (fun x => look n1 S1 C1 (S2 x) < C2 x)) : b = true ↔ BelowP n1 S1 C1 n2 S2 C2 := by
  unfold StepB at h1 h2
  rw [belowP_iff s1 s2 p1, h2, h1]
  simp
theorem model_above {n1 S1 C1 n2 S2 C2} {b b1 : Bool} (s1 : Sorted n1 S1) (s2 : Sorted n2 S2) (p2 : ∀ i, i < n2 → 0 ≤ C2 i) (h1 : StepB b1 false n1 (fun x => look n2 S2 C2 (S1 x) < C1 x)) (h2 : StepB b b1 n2 (fun x => C2 x < look n1 S1 C1 (S2 x))) : b = true ↔ BelowP n2 S2 C2 n1 S1 C1 := by
  unfold StepB at h1 h2
  rw [belowP_iff s2 s1 p2, h2, h1]
  simp only [Bool.false_eq_true, false_or]
  exact or_comm

set_option maxHeartbeats 2000000 in
set_option maxRecDepth 100000 in
theorem model_any (a1 a2 a3 a4 : Option Addr) (n1 n2 c1 c2 c3 c4 : Nat) (S1 S2 : Nat → ByteArray) (C1 C2 : Nat → Int) (w : World) (h1 : Strs w a1 n1 S1) (h2 : Cnts w a2 n1 C1) (h3 : Strs w a3 n2 S2) (h4 : Cnts w a4 n2 C2) (m1 : n1 ≤ 1048576) (m2 : n2 ≤ 1048576)
    (s1 : Sorted n1 S1) (s2 : Sorted n2 S2) (p1 : ∀ i, i < n1 → 0 ≤ C1 i) (p2 : ∀ i, i < n2 → 0 ≤ C2 i) :
    Calls Try.prog 23 #[.slice a1 n1 c1, .slice a2 n1 c2, .slice a3 n2 c3, .slice a4 n2 c4] w (ModelIs w n1 S1 C1 n2 S2 C2) := by
  have HS1 : Hid (Sorted n1 S1) := s1
  have HS2 : Hid (Sorted n2 S2) := s2
  have HP1 : Hid (∀ i, i < n1 → 0 ≤ C1 i) := p1
  have HP2 : Hid (∀ i, i < n2 → 0 ≤ C2 i) := p2
  clear s1 s2 p1 p2
  go_enter Try.func23, Try.ntmps23
  go_wp2
  go_loop [9, 10, 11] (fun v9 v10 i => ∃ (k : Nat) (bl ab : Bool), k ≤ n1 ∧ i = .int .i64 k ∧ v9 = .bool bl ∧ v10 = .bool ab ∧ StepB bl false k (fun x => C1 x < look n2 S2 C2 (S1 x)) ∧ StepB ab false k (fun x => look n2 S2 C2 (S1 x) < C1 x)) (fun _ _ i => n1 - (intOf i).toNat)
  case atStart => exact ⟨0, false, false, Nat.zero_le _, rfl, rfl, rfl, step_zero rfl, step_zero rfl⟩
  case round =>
    obtain ⟨k, bl, ab, hk, rfl, rfl, rfl, r1, r2⟩ := hrel
    have R1 : Hid (StepB bl false k (fun x => C1 x < look n2 S2 C2 (S1 x))) := r1
    have R2 : Hid (StepB ab false k (fun x => look n2 S2 C2 (S1 x) < C1 x)) := r2
    clear r1 r2
    by_cases hlt : k < n1
    · obtain ⟨b1, o1, rfl, k1⟩ := h1 (by omega)
      obtain ⟨b2, o2, rfl, k2⟩ := h2 (by omega)
      have g1 := k1 k hlt
      have g2 := k2 k hlt
      clear k1 k2
      have hkz : (k : Int) < (n1 : Int) := by omega
      go_wp2_with fail
      refine (countat_any a3 a4 n2 c3 c4 S2 C2 (S1 k) w h3 h4 m2 HS2.out).mono ?_
      rintro e w' ⟨rfl, rfl⟩
      obtain ⟨L, hL⟩ : ∃ L, L = look n2 S2 C2 (S1 k) := ⟨_, rfl⟩
      rw [← hL]
      have HL : Hid (L = look n2 S2 C2 (S1 k)) := hL
      clear hL
      by_cases x1 : C1 k < L
      · have x2 : ¬ L < C1 k := by omega
        go_wp2
        go_round
        case rel => exact ⟨k + 1, true, ab, by omega, by go_num, rfl, rfl, step_hit (by show C1 k < _; rw [← HL.out]; omega), step_miss R2.out (by show ¬ _ < C1 k; rw [← HL.out]; omega)⟩
        case measure => simp [intOf]; omega
      · by_cases x2 : L < C1 k
        · go_wp2
          go_round
          case rel => exact ⟨k + 1, bl, true, by omega, by go_num, rfl, rfl, step_miss R1.out (by show ¬ C1 k < _; rw [← HL.out]; omega), step_hit (by show _ < C1 k; rw [← HL.out]; omega)⟩
          case measure => simp [intOf]; omega
        · go_wp2
          go_round
          case rel => exact ⟨k + 1, bl, ab, by omega, by go_num, rfl, rfl, step_miss R1.out (by show ¬ C1 k < _; rw [← HL.out]; omega), step_miss R2.out (by show ¬ _ < C1 k; rw [← HL.out]; omega)⟩
          case measure => simp [intOf]; omega
    · obtain rfl : k = n1 := by omega
      go_wp2
      go_loop [9, 10, 13] (fun v9 v10 i => ∃ (m : Nat) (bl' ab' : Bool), m ≤ n2 ∧ i = .int .i64 m ∧ v9 = .bool bl' ∧ v10 = .bool ab' ∧ StepB bl' bl m (fun x => look k S1 C1 (S2 x) < C2 x) ∧ StepB ab' ab m (fun x => C2 x < look k S1 C1 (S2 x))) (fun _ _ i => n2 - (intOf i).toNat)
      case atStart => exact ⟨0, bl, ab, Nat.zero_le _, rfl, rfl, rfl, step_zero rfl, step_zero rfl⟩
      case round =>
        obtain ⟨m, bl', ab', hm, rfl, rfl, rfl, r1, r2⟩ := hrel
        have R3 : Hid (StepB bl' bl m (fun x => look k S1 C1 (S2 x) < C2 x)) := r1
        have R4 : Hid (StepB ab' ab m (fun x => C2 x < look k S1 C1 (S2 x))) := r2
        clear r1 r2
        by_cases hlt2 : m < n2
        · obtain ⟨b3, o3, rfl, k3⟩ := h3 (by omega)
          obtain ⟨b4, o4, rfl, k4⟩ := h4 (by omega)
          have g3 := k3 m hlt2
          have g4 := k4 m hlt2
          clear k3 k4
          have hmz : (m : Int) < (n2 : Int) := by omega
          go_wp2_with fail
          refine (countat_any a1 a2 k c1 c2 S1 C1 (S2 m) w h1 h2 m1 HS1.out).mono ?_
          rintro e w' ⟨rfl, rfl⟩
          obtain ⟨L, hL⟩ : ∃ L, L = look k S1 C1 (S2 m) := ⟨_, rfl⟩
          rw [← hL]
          have HL : Hid (L = look k S1 C1 (S2 m)) := hL
          clear hL
          by_cases x1 : L < C2 m
          · have x2 : ¬ C2 m < L := by omega
            go_wp2
            go_round
            case rel => exact ⟨m + 1, true, ab', by omega, by go_num, rfl, rfl, step_hit (by show _ < C2 m; rw [← HL.out]; omega), step_miss R4.out (by show ¬ C2 m < _; rw [← HL.out]; omega)⟩
            case measure => simp [intOf]; omega
          · by_cases x2 : C2 m < L
            · go_wp2
              go_round
              case rel => exact ⟨m + 1, bl', true, by omega, by go_num, rfl, rfl, step_miss R3.out (by show ¬ _ < C2 m; rw [← HL.out]; omega), step_hit (by show C2 m < _; rw [← HL.out]; omega)⟩
              case measure => simp [intOf]; omega
            · go_wp2
              go_round
              case rel => exact ⟨m + 1, bl', ab', by omega, by go_num, rfl, rfl, step_miss R3.out (by show ¬ _ < C2 m; rw [← HL.out]; omega), step_miss R4.out (by show ¬ C2 m < _; rw [← HL.out]; omega)⟩
              case measure => simp [intOf]; omega
        · obtain rfl : m = n2 := by omega
          have HB : Hid (bl' = true ↔ BelowP k S1 C1 m S2 C2) := model_below HS1.out HS2.out HP1.out R1.out R3.out
          have HA : Hid (ab' = true ↔ BelowP m S2 C2 k S1 C1) := model_above HS1.out HS2.out HP2.out R2.out R4.out
          obtain ⟨X, HX⟩ : ∃ X, Hid (X = bl') := ⟨_, rfl⟩
          obtain ⟨Y, HY⟩ : ∃ Y, Hid (Y = ab') := ⟨_, rfl⟩
          have HB2 : Hid (X = true ↔ BelowP k S1 C1 m S2 C2) := by rw [HX.out]; exact HB.out
          have HA2 : Hid (Y = true ↔ BelowP m S2 C2 k S1 C1) := by rw [HY.out]; exact HA.out
          clear R1 R2 R3 R4 HB HA
          cases bl' <;> cases ab'
          all_goals
            go_wp2
            go_ret
            exact ⟨rfl, X, Y, by rw [HX.out, HY.out]; rfl, HB2.out, HA2.out⟩
end Go.Proofs.Qxb6605503a
