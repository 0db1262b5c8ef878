import Derived.Test.Qxb6605503aZZRaise
import Derived.Test.Qxb6605503aSizes
import Derived.Test.Qxb6605503aLift
namespace Go.Proofs.Qxb6605503a.fnRaiseToMatchesLookupModel
open Go.ChangeShapes Go.WideShapes Go.ChangeAt Go.RowKit
set_option linter.unusedVariables false

set_option maxRecDepth 100000 in
set_option maxHeartbeats 1000000 in
theorem walk (a1 : Option Addr) (n1 c1 : Nat) (a2 : Option Addr) (n2 c2 : Nat) (a3 : Option Addr) (n3 c3 : Nat) (a4 : Option Addr) (n4 c4 : Nat) (S1 S3 : Nat → ByteArray) (C2 C4 : Nat → Int) (w : World)
    (A : Args4 w a1 n1 c1 a2 n2 c2 a3 n3 c3 a4 n4 c4 S1 S3 C2 C4) :
    Calls Try.prog 4 #[.slice a1 n1 c1, .slice a2 n2 c2, .slice a3 n3 c3, .slice a4 n4 c4] w fun e w' => e = .returned (.bool true) ∧ Below w.heap.size w w' := by
  go_enter Try.func4, Try.ntmps4
  go_wp2_with fail
  refine (bytes13 a1 a2 a3 a4 n1 n2 n3 n4 c1 c2 c3 c4 S1 S3 w A.s1 A.s3 A.m1 A.m2 A.m3 A.m4).mono ?_
  rintro e w' ⟨r, rfl, rfl, hr⟩
  cases r with
  | false =>
    go_wp2
    go_ret
    exact ⟨rfl, Below.refl _ _⟩
  | true =>
  obtain ⟨m1, m2, m3, m4⟩ := hr rfl
  clear hr
  go_wp2_with fail
  refine (toobig a1 a2 a3 a4 n1 n2 n3 n4 c1 c2 c3 c4 S1 S3 w' A.s1 A.s3 m1 m2 m3 m4).mono ?_
  rintro e w ⟨r, rfl, rfl, _⟩
  cases r with
  | true =>
    go_wp2
    go_ret
    exact ⟨rfl, Below.refl _ _⟩
  | false =>
  by_cases e1 : ¬ n1 = n2
  · have e1' : ((n1 : Int) != (n2 : Int)) = true := by rw [bne_iff_ne]; omega
    go_wp2
    go_ret
    exact ⟨rfl, Below.refl _ _⟩
  replace e1 := Classical.not_not.1 e1
  by_cases e2 : ¬ n3 = n4
  · have e1' : ((n1 : Int) != (n2 : Int)) = false := by rw [e1]; exact bne_self_eq_false _
    have e2' : ((n3 : Int) != (n4 : Int)) = true := by rw [bne_iff_ne]; omega
    clear e1
    go_wp2
    go_ret
    exact ⟨rfl, Below.refl _ _⟩
  replace e2 := Classical.not_not.1 e2
  subst e1 e2
  -- both lists of hosts are sorted, or true is returned
  go_wp2_with fail
  refine (sorted_any a1 n1 c1 S1 w A.s1 m1).mono ?_
  rintro e w' ⟨r, rfl, ⟨q1, rfl⟩, hso⟩
  cases r with
  | false =>
    go_wp2
    go_ret
    exact ⟨rfl, below_drewN _ _ _⟩
  | true =>
  have HSO : Hid (Sorted n1 S1) := hso rfl
  clear hso
  go_wp2_with fail
  refine (sorted_any a3 n3 c3 S3 (w.drewN q1) (A.s3.below (below_drewN _ _ _)) m3).mono ?_
  rintro e w' ⟨r, rfl, ⟨q2, hw2⟩, hso⟩
  rw [World.drewN_drewN] at hw2
  subst hw2
  cases r with
  | false =>
    go_wp2
    go_ret
    exact ⟨rfl, below_drewN _ _ _⟩
  | true =>
  have HSS : Hid (Sorted n3 S3) := hso rfl
  clear hso
  have hw0 : Below w.heap.size w (w.drewN (q1 + q2)) := below_drewN _ _ _
  have A' : Args4 (w.drewN (q1 + q2)) a1 n1 c1 a2 n1 c2 a3 n3 c3 a4 n3 c4 S1 S3 C2 C4 := ⟨A.s1.below hw0, A.s2.below hw0, A.s3.below hw0, A.s4.below hw0, A.z1, A.z2, A.z3, A.z4, A.m1, A.m2, A.m3, A.m4, A.b2, A.b4⟩
  clear A
  generalize w.drewN (q1 + q2) = w0 at *
  go_wp2_with fail
  refine (clone_strs a1 n1 c1 S1 w0 A'.s1 A'.z1 m1).mono ?_
  rintro e w1 ⟨a1', c1', rfl, s1, z1, b1⟩
  have t2 := A'.s2.below b1
  have t3 := A'.s3.below b1
  have t4 := A'.s4.below b1
  go_wp2_with fail
  refine (clone_cnts a2 n1 c2 C2 w1 t2 A'.z2 m1).mono ?_
  rintro e w2 ⟨a2', c2', rfl, s2, z2, b2⟩
  replace s1 := s1.below b2
  replace t3 := t3.below b2
  replace t4 := t4.below b2
  go_wp2_with fail
  refine (clone_strs a3 n3 c3 S3 w2 t3 A'.z3 m3).mono ?_
  rintro e w3 ⟨a3', c3', rfl, s3, z3, b3⟩
  replace s1 := s1.below b3
  replace s2 := s2.below b3
  replace t4 := t4.below b3
  go_wp2_with fail
  refine (clone_cnts a4 n3 c4 C4 w3 t4 A'.z4 m3).mono ?_
  rintro e w4 ⟨a4', c4', rfl, s4, z4, b4⟩
  replace s1 := s1.below b4
  replace s2 := s2.below b4
  replace s3 := s3.below b4
  have B4 : Below w0.heap.size w0 w4 := ((b1.trans (b2.mono b1.size)).trans (b3.mono (Nat.le_trans b1.size b2.size))).trans (b4.mono (Nat.le_trans (Nat.le_trans b1.size b2.size) b3.size))
  have hz : w.heap.size ≤ w4.heap.size := Nat.le_trans hw0.size B4.size
  replace B4 : Below w.heap.size w w4 := hw0.trans (B4.mono hw0.size)
  have HC2 : Hid (∀ j, j < n1 → 0 ≤ C2 j) := fun j hj => (A'.b2 j hj).1
  clear A' t2 t3 t4 z2 z4 b1 b2 b3 b4 hw0
  go_wp2_with fail
  refine (subset_any a3' a1' n3 c3' n1 c1' S3 S1 w4 s3 s1 m3 m1 HSO.out).mono ?_
  rintro e w' ⟨rfl, r, rfl, hs1, hs2⟩
  have HS1 : Hid (r = true → ∀ i, i < n3 → ∃ j, j < n1 ∧ S1 j = S3 i) := hs1
  have HS2 : Hid (r = false → ∃ i, i < n3 ∧ ∀ j, j < n1 → S1 j ≠ S3 i) := hs2
  clear hs1 hs2
  go_wp2_with fail
  refine (zzraise_any a1' a2' a3' a4' n1 n3 c1' c2' c3' c4' S1 S3 C2 C4 w' s1 s2 s3 s4 z1 z3 m1 m3 HSO.out HSS.out HC2.out).mono ?_
  rintro e w5 ⟨r', ah, ch, ac, cc, rfl, hr1, hr2, hs5, hc5, _, _, b5⟩
  obtain rfl : r' = r := by
    cases r <;> cases r' <;> first | rfl | skip
    · obtain ⟨i, hi, hn⟩ := HS2.out rfl
      obtain ⟨j, hj, e⟩ := hr1 rfl i hi
      exact absurd e (hn j hj)
    · obtain ⟨i, hi, hn⟩ := hr2 rfl
      obtain ⟨j, hj, e⟩ := HS1.out rfl i hi
      exact absurd e (hn j hj)
  replace s1 := s1.below b5
  replace s2 := s2.below b5
  replace s3 := s3.below b5
  replace s4 := s4.below b5
  have B5 : Below w.heap.size w w5 := B4.trans (b5.mono hz)
  clear hr1 hr2 b5 B4 hz z1 z3 HS1 HS2
  cases r' with
  | false =>
    go_wp2
    go_loopw [13] (fun i wr => ∃ k : Nat, k ≤ n1 ∧ i = .int .i64 k ∧ ∃ q, wr = w5.drewN q) (fun i _ => n1 - (intOf i).toNat)
    case atStart => exact ⟨0, Nat.zero_le _, rfl, 0, rfl⟩
    case round =>
      obtain ⟨k, hk, rfl, q, rfl⟩ := hrel
      by_cases hlt : k < n1
      · obtain ⟨b1, o1, rfl, h1⟩ := s1 (by omega)
        obtain ⟨b2, o2, rfl, h2⟩ := s2 (by omega)
        obtain ⟨b5, o5, rfl, h5⟩ := hs5 (by omega)
        obtain ⟨b6, o6, rfl, h6⟩ := hc5 (by omega)
        have g1 := h1 k hlt
        have g2 := h2 k hlt
        have g5 := h5 k hlt
        have g6 := h6 k hlt
        clear h1 h2 h5 h6
        have hkz : (k : Int) < (n1 : Int) := by omega
        simp only [Bool.false_eq_true, if_false] at g6
        go_wp2
        go_quiet (fail)
        go_wp2
        go_roundw
        case rel => exact ⟨k + 1, by omega, by go_num, _, rfl⟩
        case measure => simp [intOf]; omega
      · go_wp2
        go_ret
        exact ⟨rfl, B5.trans (below_drewN _ _ _)⟩
  | true =>
    go_wp2
    go_loopw [13] (fun i wr => ∃ k : Nat, k ≤ n1 ∧ i = .int .i64 k ∧ ∃ q, wr = w5.drewN q) (fun i _ => n1 - (intOf i).toNat)
    case atStart => exact ⟨0, Nat.zero_le _, rfl, 0, rfl⟩
    case round =>
      obtain ⟨k, hk, rfl, q, rfl⟩ := hrel
      by_cases hlt : k < n1
      · obtain ⟨b1, o1, rfl, h1⟩ := s1 (by omega)
        obtain ⟨b2, o2, rfl, h2⟩ := s2 (by omega)
        obtain ⟨b5, o5, rfl, h5⟩ := hs5 (by omega)
        obtain ⟨b6, o6, rfl, h6⟩ := hc5 (by omega)
        have g1 := h1 k hlt
        have g2 := h2 k hlt
        have g5 := h5 k hlt
        have g6 := h6 k hlt
        clear h1 h2 h5 h6
        have hkz : (k : Int) < (n1 : Int) := by omega
        simp only [if_true] at g6
        have hs3 := s3.below (below_drewN w5.heap.size w5 q)
        have hcp : 0 ≤ C2 k := HC2.out k hlt
        have HF1 : Hid (∀ j, j < n3 → S3 j = S1 k → fullC S1 C2 n3 S3 C4 k = max (C2 k) (C4 j)) := fun j hj e => by rw [fullC, ← e, look_hit C4 HSS.out hj]
        have HF2 : Hid ((∀ j, j < n3 → S3 j ≠ S1 k) → fullC S1 C2 n3 S3 C4 k = C2 k) := fun h => by rw [fullC, look_miss _ _ _ _ h]; omega
        go_wp2
        go_quiet (fail)
        go_wp2_with fail
        have hs4 : Strs ((w5.drewN q).drewN nq) a3' n3 S3 := hs3
        refine (find_any a3' n3 c3' S3 (S1 k) _ (by exact hs4) m3 HSS.out).mono ?_
        rintro e w' ⟨rfl, ⟨rfl, hn⟩ | ⟨j, rfl, hj, hjk⟩⟩
        · rw [HF2.out hn] at g6
          clear hn
          have hz : decide ((0 : Int) ≤ -1) = false := by decide
          go_wp2
          go_roundw
          case rel => exact ⟨k + 1, by omega, by go_num, _, rfl⟩
          case measure => simp [intOf]; omega
        · rw [HF1.out j hj hjk] at g6
          clear hjk
          obtain ⟨b4, o4, rfl, h4⟩ := s4 (by omega)
          have g4 := h4 j hj
          clear h4
          have hjz : (j : Int) < (n3 : Int) := by omega
          by_cases hgt : C2 k < C4 j
          · rw [show max (C2 k) (C4 j) = C4 j from by omega] at g6
            go_wp2
            go_roundw
            case rel => exact ⟨k + 1, by omega, by go_num, _, rfl⟩
            case measure => simp [intOf]; omega
          · rw [show max (C2 k) (C4 j) = C2 k from by omega] at g6
            go_wp2
            go_roundw
            case rel => exact ⟨k + 1, by omega, by go_num, _, rfl⟩
            case measure => simp [intOf]; omega
      · go_wp2
        go_ret
        exact ⟨rfl, B5.trans (below_drewN _ _ _)⟩

/-! ### THE ROW's STEP -/
set_option maxRecDepth 100000 in
theorem lifted (os : Os) (started : os.Started) (H : Type) (enc : TypeId × Value → H) :
    ReturnsInHanded {} Try.checked os 4 .any (Rows.fnRaiseToMatchesLookupModelSpec.pre6 enc Try.prog Try.f4 Rows.fnRaiseToMatchesLookupModelRow.domain false) (Rows.fnRaiseToMatchesLookupModelSpec.post enc Try.prog Try.f4 false true false false) := by
  refine returnsInHanded_of_change (C := Try.checked) own started (by kernel_rfl) Try.func4
    (ChangeSpec.witness6 (enc := enc) (C := Try.checked) false ⟨#[], #[.slice none 0 0, .slice none 0 0, .slice none 0 0, .slice none 0 0], []⟩ 8 (by kernel_rfl) (by kernel_rfl) (by kernel_rfl) (by kernel_rfl)) ?_
  intro W base args ds gs before hval0 hW hcnd _
  have hval : ∀ (j : Nat) t v, Try.f4.params[j]? = some t → args[j]? = some v → Value.okWide Try.prog W .any base t v := hval0
  have hW' := hW
  obtain ⟨p, q, hA0, hV, rfl, hfz, hnd⟩ := hW
  have hA : DataW.TrodAll enc Try.prog W 0 (fun _ => true) true Try.f4.params.toList args.toList ds p := hA0
  rw [Try.params4] at hA hval
  obtain ⟨v0, vs0, d0, ds0, p0, q0, hargs, rfl, rfl, h0, r0⟩ := trodAll_cons hA
  obtain ⟨v1, vs1, d1, ds1, p1, q1, rfl, rfl, rfl, h1, r1⟩ := trodAll_cons r0
  obtain ⟨v2, vs2, d2, ds2, p2, q2, rfl, rfl, rfl, h2, r2⟩ := trodAll_cons r1
  obtain ⟨v3, vs3, d3, ds3, p3, q3, rfl, rfl, rfl, h3, r3⟩ := trodAll_cons r2
  obtain ⟨rfl, rfl, rfl⟩ := trodAll_nil r3
  obtain rfl : args = #[v0, v1, v2, v3] := by cases args; simp_all
  obtain ⟨rfl, rfl⟩ := trodVars_none hV
  obtain ⟨a0, len0, cap0, rfl⟩ := okWide_slice Try.underlying22 (hval 0 22 v0 rfl rfl)
  obtain ⟨a1, len1, cap1, rfl⟩ := okWide_slice Try.underlying23 (hval 1 23 v1 rfl rfl)
  obtain ⟨a2, len2, cap2, rfl⟩ := okWide_slice Try.underlying22 (hval 2 22 v2 rfl rfl)
  obtain ⟨a3, len3, cap3, rfl⟩ := okWide_slice Try.underlying23 (hval 3 23 v3 rfl rfl)
  have k0 := h0
  have k1 := h1
  have k2 := h2
  have k3 := h3
  have lt0 : ∀ x ∈ p0, x.block < W.heap.size := by obtain ⟨m, hm⟩ := k0; exact DataW.trod_lt m _ _ _ hm
  have lt1 : ∀ x ∈ p1, x.block < W.heap.size := by obtain ⟨m, hm⟩ := k1; exact DataW.trod_lt m _ _ _ hm
  have lt2 : ∀ x ∈ p2, x.block < W.heap.size := by obtain ⟨m, hm⟩ := k2; exact DataW.trod_lt m _ _ _ hm
  have lt3 : ∀ x ∈ p3, x.block < W.heap.size := by obtain ⟨m, hm⟩ := k3; exact DataW.trod_lt m _ _ _ hm
  obtain ⟨S0, s0, z0, m0⟩ := strs_in h0
  obtain ⟨C1, s1, z1, m1, b1⟩ := cnts_in h1
  obtain ⟨S2, s2, z2, m2⟩ := strs_in h2
  obtain ⟨C3, s3, z3, m3, b3⟩ := cnts_in h3
  clear hA0 hval0
  refine (walk a0 len0 cap0 a1 len1 cap1 a2 len2 cap2 a3 len3 cap3 S0 S2 C1 C3 W ⟨s0, s1, s2, s3, z0, z1, z2, z3, m0, m1, m2, m3, b1, b3⟩).mono fun e W' ⟨he, bel⟩ => ?_
  subst he
  exact ⟨_, rfl, _, _, _, [], _, [], hW', trodAll_mk1 (shut_bool Try.underlying4 _), (trodAll_cons_mk (Below.trod laidOut (by kernel_rfl) (of_decide_eq_true (by kernel_rfl)) k0 bel lt0) (trodAll_cons_mk (Below.trod laidOut (by kernel_rfl) (of_decide_eq_true (by kernel_rfl)) k1 bel lt1) (trodAll_cons_mk (Below.trod laidOut (by kernel_rfl) (of_decide_eq_true (by kernel_rfl)) k2 bel lt2) (trodAll_cons_mk (Below.trod laidOut (by kernel_rfl) (of_decide_eq_true (by kernel_rfl)) k3 bel lt3) trodAll_mk0)))), rfl, bel.frame _, fun h => by cases h⟩

theorem over : Rows.fnRaiseToMatchesLookupModelRow.holds Try.pinned (OpenSpec.ofChange Rows.fnRaiseToMatchesLookupModelSpec) :=
  OpenClaim.holds_of_wide 4 Try.f4 rfl rfl rfl rfl rfl rfl rfl ⟨rfl, rfl, rfl, rfl, rfl⟩ rfl rfl rfl rfl rfl (by kernel_rfl) Try.func4 (by kernel_rfl)
    (of_decide_eq_true (by kernel_rfl)) (by unfold Func.isWrapper; first | (rw [if_pos (by decide +kernel)]; kernel_rfl) | (rw [if_neg (by decide +kernel)]; exact ⟨rfl, rfl⟩))
    (fun os started H enc _ => lifted os started H enc)

/-- THE STATEMENT -/
theorem proved : Rows.FnRaiseToMatchesLookupModelSaid := over
end Go.Proofs.Qxb6605503a.fnRaiseToMatchesLookupModel
