import Derived.Test.Qxb6605503aCompare
namespace Go.Proofs.Qxb6605503a
open Go.RowKit

/-! ### The plain laws -/
theorem look_congr : ∀ (n : Nat) (S S' : Nat → ByteArray) (C C' : Nat → Int) (h : ByteArray), (∀ i, i < n → S i = S' i ∧ C i = C' i) → look n S C h = look n S' C' h
  | 0, _, _, _, _, _, _ => rfl
  | n + 1, S, S', C, C', h, e => by
    rw [look_succ, look_succ, (e 0 (by omega)).1, (e 0 (by omega)).2, look_congr n _ _ _ _ h (fun i hi => e (i + 1) (by omega))]

theorem same_front {n1 n2 : Nat} {S1 S2 : Nat → ByteArray} (s1 : Sorted n1 S1) (s2 : Sorted n2 S2) (h12 : ∀ i, i < n1 → ∃ k, k < n2 ∧ S2 k = S1 i) (h21 : ∀ i, i < n2 → ∃ k, k < n1 ∧ S1 k = S2 i) :
    ∀ m i, i < m → i < n1 → i < n2 ∧ S1 i = S2 i
  | 0, i, hi, _ => by omega
  | m + 1, i, hi, hn => by
    have ih : ∀ j, j < i → S1 j = S2 j := fun j hj => (same_front s1 s2 h12 h21 m j (by omega) (by omega)).2
    obtain ⟨k, hk, ek⟩ := h12 i hn
    have hki : i ≤ k := by
      apply Classical.byContradiction
      intro g
      have e := ih k (by omega)
      have := s1.inj (by omega) hn (e.trans ek)
      omega
    have hi2 : i < n2 := by omega
    refine ⟨hi2, ?_⟩
    obtain ⟨m', hm', em⟩ := h21 i hi2
    have hmi : i ≤ m' := by
      apply Classical.byContradiction
      intro g
      have e := ih m' (by omega)
      have := s2.inj (by omega) hi2 (e.symm.trans em)
      omega
    by_cases e : k = i
    · subst e; exact ek.symm
    · have l1 := s2.lt' (show i < k by omega) hk
      rw [ek, ← em] at l1
      by_cases e2 : m' = i
      · subst e2; rw [ltS_irrefl] at l1; cases l1
      · have l2 := s1.lt' (show i < m' by omega) hm'
        rw [ltS_asymm l2] at l1; cases l1

theorem same_of_equal {n1 n2 : Nat} {S1 S2 : Nat → ByteArray} {C1 C2 : Nat → Int} (s1 : Sorted n1 S1) (s2 : Sorted n2 S2) (p1 : ∀ i, i < n1 → 0 < C1 i) (p2 : ∀ i, i < n2 → 0 < C2 i)
    (h1 : ¬ BelowP n1 S1 C1 n2 S2 C2) (h2 : ¬ BelowP n2 S2 C2 n1 S1 C1) : n1 = n2 ∧ ∀ i, i < n1 → S1 i = S2 i ∧ C1 i = C2 i := by
  have he : ∀ h, look n1 S1 C1 h = look n2 S2 C2 h := by
    intro h
    have a : ¬ look n1 S1 C1 h < look n2 S2 C2 h := fun g => h1 ⟨h, g⟩
    have b : ¬ look n2 S2 C2 h < look n1 S1 C1 h := fun g => h2 ⟨h, g⟩
    omega
  have h12 : ∀ i, i < n1 → ∃ k, k < n2 ∧ S2 k = S1 i := by
    intro i hi
    have e := he (S1 i)
    rw [look_hit C1 s1 hi] at e
    rcases look_cases n2 S2 C2 (S1 i) with ⟨k, hk, ek, _⟩ | ⟨_, e2⟩
    · exact ⟨k, hk, ek⟩
    · have := p1 i hi; omega
  have h21 : ∀ i, i < n2 → ∃ k, k < n1 ∧ S1 k = S2 i := by
    intro i hi
    have e := he (S2 i)
    rw [look_hit C2 s2 hi] at e
    rcases look_cases n1 S1 C1 (S2 i) with ⟨k, hk, ek, _⟩ | ⟨_, e2⟩
    · exact ⟨k, hk, ek⟩
    · have := p2 i hi; omega
  have f12 := same_front s1 s2 h12 h21
  have f21 := same_front s2 s1 h21 h12
  have hn : n1 = n2 := by
    apply Classical.byContradiction
    intro g
    rcases Nat.lt_or_gt_of_ne g with g | g
    · have := (f21 (n1 + 1) n1 (by omega) g).1; omega
    · have := (f12 (n2 + 1) n2 (by omega) g).1; omega
  refine ⟨hn, fun i hi => ?_⟩
  have e := (f12 (i + 1) i (by omega) hi).2
  refine ⟨e, ?_⟩
  have := he (S1 i)
  rw [look_hit C1 s1 hi, e, look_hit C2 s2 (by omega)] at this
  exact this
theorem equal_of_same {n1 n2 : Nat} {S1 S2 : Nat → ByteArray} {C1 C2 : Nat → Int} (hn : n1 = n2) (h : ∀ i, i < n1 → S1 i = S2 i ∧ C1 i = C2 i) : ¬ BelowP n1 S1 C1 n2 S2 C2 ∧ ¬ BelowP n2 S2 C2 n1 S1 C1 := by
  subst hn
  constructor
  · rintro ⟨x, hx⟩; rw [look_congr n1 S1 S2 C1 C2 x h] at hx; omega
  · rintro ⟨x, hx⟩; rw [look_congr n1 S1 S2 C1 C2 x h] at hx; omega

theorem step_hit {b0 : Bool} {P : Nat → Prop} {t : Nat} (h : P t) : StepB true b0 (t + 1) P := ⟨fun _ => .inr ⟨t, by omega, h⟩, fun _ => rfl⟩
theorem step_miss {b b0 : Bool} {P : Nat → Prop} {t : Nat} (hs : StepB b b0 t P) (h : ¬ P t) : StepB b b0 (t + 1) P := by
  unfold StepB at hs ⊢
  rw [hs]
  constructor
  · rintro (g | ⟨x, hx, hp⟩)
    · exact .inl g
    · exact .inr ⟨x, by omega, hp⟩
  · rintro (g | ⟨x, hx, hp⟩)
    · exact .inl g
    · by_cases e : x = t
      · subst e; exact absurd hp h
      · exact .inr ⟨x, by omega, hp⟩

/-! ### The walks -/
def SameClockIs (w : World) (n1 n2 : Nat) (S1 S2 : Nat → ByteArray) (C1 C2 : Nat → Int) (e : Ending) (w' : World) : Prop :=
  ∃ r : Bool, e = .returned (.bool r) ∧ (r = true ↔ n1 = n2 ∧ ∀ i, i < n1 → S1 i = S2 i ∧ C1 i = C2 i) ∧ ∃ m, w' = w.drewN m

set_option maxHeartbeats 1000000 in
set_option maxRecDepth 100000 in
theorem sameclock_any (a1 a2 a3 a4 : Option Addr) (n1 n2 c1 c2 c3 c4 : Nat) (S1 S2 : Nat → ByteArray) (C1 C2 : Nat → Int) (w : World) (h1 : Strs w a1 n1 S1) (h2 : Cnts w a2 n1 C1) (h3 : Strs w a3 n2 S2) (h4 : Cnts w a4 n2 C2) (m1 : n1 ≤ 1048576) (m2 : n2 ≤ 1048576) :
    Calls Try.prog 26 #[.slice a1 n1 c1, .slice a2 n1 c2, .slice a3 n2 c3, .slice a4 n2 c4] w (SameClockIs w n1 n2 S1 S2 C1 C2) := by
  by_cases hn : ¬ n1 = n2
  · have hz : ((n1 : Int) != (n2 : Int)) = true := by rw [bne_iff_ne]; omega
    go_enter Try.func26, Try.ntmps26
    go_wp2
    go_ret
    exact ⟨false, rfl, ⟨(fun h => by cases h), fun h => absurd h.1 hn⟩, 0, rfl⟩
  · replace hn := Classical.not_not.1 hn
    subst hn
    go_enter Try.func26, Try.ntmps26
    go_wp2
    go_loopw [9] (fun i wr => ∃ k : Nat, k ≤ n1 ∧ i = .int .i64 k ∧ (∀ j, j < k → S1 j = S2 j ∧ C1 j = C2 j) ∧ ∃ q, wr = w.drewN q) (fun i _ => n1 - (intOf i).toNat)
    case atStart => exact ⟨0, Nat.zero_le _, rfl, fun j hj => by omega, 0, rfl⟩
    case round =>
      obtain ⟨k, hk, rfl, hr, q, rfl⟩ := hrel
      have HR : Hid (∀ j, j < k → S1 j = S2 j ∧ C1 j = C2 j) := hr
      clear hr
      by_cases hlt : k < n1
      · obtain ⟨b1, o1, rfl, k1⟩ := h1 (by omega)
        obtain ⟨b2, o2, rfl, k2⟩ := h2 (by omega)
        obtain ⟨b3, o3, rfl, k3⟩ := h3 (by omega)
        obtain ⟨b4, o4, rfl, k4⟩ := h4 (by omega)
        have g1 := k1 k hlt
        have g2 := k2 k hlt
        have g3 := k3 k hlt
        have g4 := k4 k hlt
        clear k1 k2 k3 k4
        have hkz : (k : Int) < (n1 : Int) := by omega
        by_cases es : S1 k = S2 k
        · have es' : ((S1 k).toList == (S2 k).toList) = true := by rw [es]; exact beq_self_eq_true _
          have ES : Hid (S1 k = S2 k) := es
          clear es
          by_cases ec : C1 k = C2 k
          · have ec' : (C1 k != C2 k) = false := by rw [ec]; exact bne_self_eq_false _
            have EC : Hid (C1 k = C2 k) := ec
            clear ec
            go_wp2
            go_quiet (fail)
            go_wp2
            go_roundw
            case rel =>
              refine ⟨k + 1, by omega, by go_num, fun j hj => ?_, _, rfl⟩
              rcases Nat.lt_or_ge j k with h | h
              · exact HR.out j h
              · obtain rfl : j = k := by omega
                exact ⟨ES.out, EC.out⟩
            case measure => simp [intOf]; omega
          · have ec' : (C1 k != C2 k) = true := by rw [bne_iff_ne]; exact ec
            go_wp2
            go_quiet (fail)
            go_wp2
            go_ret
            exact ⟨false, rfl, ⟨(fun h => by cases h), fun h => absurd (h.2 k hlt).2 ec⟩, _, World.drewN_drewN _ _ _⟩
        · have es' : ((S1 k).toList == (S2 k).toList) = false := beq_eq_false_iff_ne.2 (fun h => es (toList_inj h))
          go_wp2
          go_quiet (fail)
          go_wp2
          go_ret
          exact ⟨false, rfl, ⟨(fun h => by cases h), fun h => absurd (h.2 k hlt).1 es⟩, _, World.drewN_drewN _ _ _⟩
      · go_wp2
        go_ret
        exact ⟨true, rfl, ⟨fun _ => ⟨rfl, fun i hi => HR.out i (by omega)⟩, fun _ => rfl⟩, _, rfl⟩

theorem countat_any (a1 a2 : Option Addr) (n c1 c2 : Nat) (S : Nat → ByteArray) (C : Nat → Int) (x : ByteArray) (w : World) (h1 : Strs w a1 n S) (h2 : Cnts w a2 n C) (hn : n ≤ 1048576) (hs : Sorted n S) :
    Calls Try.prog 31 #[.slice a1 n c1, .slice a2 n c2, .string x] w fun e w' => e = .returned (.int .u64 (look n S C x)) ∧ w' = w := by
  have HSO : Hid (Sorted n S) := hs
  clear hs
  go_enter Try.func31, Try.ntmps31
  go_wp2_with fail
  refine (find_any a1 n c1 S x w h1 hn HSO.out).mono ?_
  rintro e w' ⟨rfl, ⟨rfl, hm⟩ | ⟨i, rfl, hi, hx⟩⟩
  · have HL : Hid (look n S C x = 0) := look_miss _ _ _ _ hm
    clear hm
    go_wp2
    go_ret
    exact ⟨by rw [HL.out]; rfl, rfl⟩
  · have HL : Hid (look n S C x = C i) := by rw [← hx]; exact look_hit C HSO.out hi
    clear hx
    obtain ⟨b, off, rfl, hc⟩ := h2 (by omega)
    have g := hc i hi
    clear hc
    have hiz : (i : Int) < (n : Int) := by omega
    go_wp2
    go_ret
    exact ⟨by rw [HL.out]; rfl, rfl⟩
end Go.Proofs.Qxb6605503a
