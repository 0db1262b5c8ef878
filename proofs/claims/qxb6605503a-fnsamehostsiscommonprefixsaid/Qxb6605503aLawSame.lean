import Derived.Test.Qxb6605503aZZSame
import Derived.Test.Qxb6605503aLift
namespace Go.Proofs.Qxb6605503a.fnSameHostsIsCommonPrefix
open Go.ChangeShapes Go.WideShapes Go.ChangeAt Go.RowKit
set_option linter.unusedVariables false

set_option maxHeartbeats 1000000 in
theorem walk (a1 : Option Addr) (n1 c1 : Nat) (a2 : Option Addr) (n2 c2 : Nat) (a3 : Option Addr) (n3 c3 : Nat) (a4 : Option Addr) (n4 c4 : Nat) (S1 S3 : Nat → ByteArray) (C2 C4 : Nat → Int) (w : World)
    (A : Args4 w a1 n1 c1 a2 n2 c2 a3 n3 c3 a4 n4 c4 S1 S3 C2 C4) :
    Calls Try.prog 3 #[.slice a1 n1 c1, .slice a2 n2 c2, .slice a3 n3 c3, .slice a4 n4 c4] w fun e w' => e = .returned (.bool true) ∧ Below w.heap.size w w' := by
  go_enter Try.func3, Try.ntmps3
  go_wp2_with fail
  refine (bytes8 a1 a2 a3 a4 n1 n2 n3 n4 c1 c2 c3 c4 S1 S3 w A.s1 A.s3 A.m1 A.m2 A.m3 A.m4).mono ?_
  rintro e w' ⟨r, rfl, rfl, hr⟩
  cases r with
  | false =>
    go_wp2
    go_ret
    exact ⟨rfl, Below.refl _ _⟩
  | true =>
  obtain ⟨m1, m2, m3, m4⟩ := hr rfl
  clear hr
  go_wp2_with fail
  refine (toobig a1 a2 a3 a4 n1 n2 n3 n4 c1 c2 c3 c4 S1 S3 w' A.s1 A.s3 m1 m2 m3 m4).mono ?_
  rintro e w ⟨r, rfl, rfl, _⟩
  cases r with
  | true =>
    go_wp2
    go_ret
    exact ⟨rfl, Below.refl _ _⟩
  | false =>
  by_cases e1 : ¬ n1 = n2
  · have e1' : ((n1 : Int) != (n2 : Int)) = true := by rw [bne_iff_ne]; omega
    go_wp2
    go_ret
    exact ⟨rfl, Below.refl _ _⟩
  replace e1 := Classical.not_not.1 e1
  by_cases e2 : ¬ n3 = n4
  · have e1' : ((n1 : Int) != (n2 : Int)) = false := by rw [e1]; exact bne_self_eq_false _
    have e2' : ((n3 : Int) != (n4 : Int)) = true := by rw [bne_iff_ne]; omega
    clear e1
    go_wp2
    go_ret
    exact ⟨rfl, Below.refl _ _⟩
  replace e2 := Classical.not_not.1 e2
  subst e1 e2
  go_wp2_with fail
  refine (clone_strs a1 n1 c1 S1 w A.s1 A.z1 m1).mono ?_
  rintro e w1 ⟨a1', c1', rfl, s1, z1, b1⟩
  have t2 := A.s2.below b1
  have t3 := A.s3.below b1
  have t4 := A.s4.below b1
  go_wp2_with fail
  refine (clone_cnts a2 n1 c2 C2 w1 t2 A.z2 m1).mono ?_
  rintro e w2 ⟨a2', c2', rfl, s2, z2, b2⟩
  replace s1 := s1.below b2
  replace t3 := t3.below b2
  replace t4 := t4.below b2
  go_wp2_with fail
  refine (clone_strs a3 n3 c3 S3 w2 t3 A.z3 m3).mono ?_
  rintro e w3 ⟨a3', c3', rfl, s3, z3, b3⟩
  replace s1 := s1.below b3
  replace s2 := s2.below b3
  replace t4 := t4.below b3
  go_wp2_with fail
  refine (clone_cnts a4 n3 c4 C4 w3 t4 A.z4 m3).mono ?_
  rintro e w4 ⟨a4', c4', rfl, s4, z4, b4⟩
  replace s1 := s1.below b4
  replace s2 := s2.below b4
  replace s3 := s3.below b4
  have B4 : Below w.heap.size w w4 := ((b1.trans (b2.mono b1.size)).trans (b3.mono (Nat.le_trans b1.size b2.size))).trans (b4.mono (Nat.le_trans (Nat.le_trans b1.size b2.size) b3.size))
  have hz : w.heap.size ≤ w4.heap.size := B4.size
  clear A t2 t3 t4 z2 z4 b1 b2 b3 b4
  go_wp2_with fail
  refine (zzsame_any a1' a2' a3' a4' n1 n3 c1' c2' c3' c4' S1 S3 C2 C4 w4 s1 s2 s3 s4 z1 z3 m1 m3).mono ?_
  rintro e w5 ⟨rfl, b5⟩
  replace s1 := s1.below b5
  replace s3 := s3.below b5
  have B5 : Below w.heap.size w w5 := B4.trans (b5.mono hz)
  clear s2 s4 b5 B4 hz z1 z3
  obtain ⟨k1, k2, k3⟩ := lcp_spec (min n1 n3) S1 S3
  generalize lcp (min n1 n3) S1 S3 = k at *
  have K2 : Hid (∀ i, i < k → S1 i = S3 i) := k2
  have K3 : Hid (k < min n1 n3 → S1 k ≠ S3 k) := k3
  clear k2 k3
  by_cases h31 : n3 < n1
  all_goals
    go_wp2
    go_loopw [11] (fun i wr => ∃ j : Nat, j ≤ k ∧ i = .int .i64 j ∧ ∃ q, wr = w5.drewN q) (fun i _ => k - (intOf i).toNat)
    case atStart => exact ⟨0, Nat.zero_le _, rfl, 0, rfl⟩
    case round =>
      obtain ⟨j, hj, rfl, q, rfl⟩ := hrel
      by_cases hlt : j < k
      · obtain ⟨b, off, rfl, hc⟩ := s1 (by omega)
        obtain ⟨b', off', rfl, hc'⟩ := s3 (by omega)
        have g1 := hc j (by omega)
        have g2 := hc' j (by omega)
        have hjz : (j : Int) < (n1 : Int) := by omega
        have hjz' : (j : Int) < (n3 : Int) := by omega
        have e1 : ((S1 j).toList == (S3 j).toList) = true := by rw [K2.out j hlt]; exact beq_self_eq_true _
        clear hc hc'
        go_wp2
        go_quiet (fail)
        go_wp2
        go_roundw
        case rel => exact ⟨j + 1, by omega, by go_num, _, rfl⟩
        case measure => simp [intOf]; omega
      · by_cases hkm : k = min n1 n3
        · first
            | (have hkz : ((k : Int) == (n3 : Int)) = true := beq_iff_eq.2 (by omega)
               clear hkm
               go_wp2
               go_quiet (fail)
               go_wp2
               go_ret
               exact ⟨rfl, B5.trans ((below_drewN _ _ _).trans (below_drewN _ _ _))⟩)
            | (have hkz : ((k : Int) == (n1 : Int)) = true := beq_iff_eq.2 (by omega)
               clear hkm
               go_wp2
               go_quiet (fail)
               go_wp2
               go_ret
               exact ⟨rfl, B5.trans ((below_drewN _ _ _).trans (below_drewN _ _ _))⟩)
        · obtain ⟨b, off, rfl, hc⟩ := s1 (by omega)
          obtain ⟨b', off', rfl, hc'⟩ := s3 (by omega)
          have g1 := hc k (by omega)
          have g2 := hc' k (by omega)
          have hjz : (k : Int) < (n1 : Int) := by omega
          have hjz' : (k : Int) < (n3 : Int) := by omega
          have f1 : ((k : Int) == (n1 : Int)) = false := beq_eq_false_iff_ne.2 (by omega)
          have f3 : ((k : Int) == (n3 : Int)) = false := beq_eq_false_iff_ne.2 (by omega)
          have hne : S1 k ≠ S3 k := K3.out (by omega)
          have e1 : ((S1 k).toList == (S3 k).toList) = false := beq_eq_false_iff_ne.2 (fun h => hne (toList_inj h))
          clear hc hc' hne hkm
          go_wp2
          go_quiet (fail)
          go_wp2
          go_ret
          exact ⟨rfl, B5.trans ((below_drewN _ _ _).trans (below_drewN _ _ _))⟩

/-! ### THE ROW's STEP -/
set_option maxRecDepth 100000 in
theorem lifted (os : Os) (started : os.Started) (H : Type) (enc : TypeId × Value → H) :
    ReturnsInHanded {} Try.checked os 3 .any (Rows.fnSameHostsIsCommonPrefixSpec.pre6 enc Try.prog Try.f3 Rows.fnSameHostsIsCommonPrefixRow.domain false) (Rows.fnSameHostsIsCommonPrefixSpec.post enc Try.prog Try.f3 false true false false) := by
  refine returnsInHanded_of_change (C := Try.checked) own started (by kernel_rfl) Try.func3
    (ChangeSpec.witness6 (enc := enc) (C := Try.checked) false ⟨#[], #[.slice none 0 0, .slice none 0 0, .slice none 0 0, .slice none 0 0], []⟩ 8 (by kernel_rfl) (by kernel_rfl) (by kernel_rfl) (by kernel_rfl)) ?_
  intro W base args ds gs before hval0 hW hcnd _
  have hval : ∀ (j : Nat) t v, Try.f3.params[j]? = some t → args[j]? = some v → Value.okWide Try.prog W .any base t v := hval0
  have hW' := hW
  obtain ⟨p, q, hA0, hV, rfl, hfz, hnd⟩ := hW
  have hA : DataW.TrodAll enc Try.prog W 0 (fun _ => true) true Try.f3.params.toList args.toList ds p := hA0
  rw [Try.params3] at hA hval
  obtain ⟨v0, vs0, d0, ds0, p0, q0, hargs, rfl, rfl, h0, r0⟩ := trodAll_cons hA
  obtain ⟨v1, vs1, d1, ds1, p1, q1, rfl, rfl, rfl, h1, r1⟩ := trodAll_cons r0
  obtain ⟨v2, vs2, d2, ds2, p2, q2, rfl, rfl, rfl, h2, r2⟩ := trodAll_cons r1
  obtain ⟨v3, vs3, d3, ds3, p3, q3, rfl, rfl, rfl, h3, r3⟩ := trodAll_cons r2
  obtain ⟨rfl, rfl, rfl⟩ := trodAll_nil r3
  obtain rfl : args = #[v0, v1, v2, v3] := by cases args; simp_all
  obtain ⟨rfl, rfl⟩ := trodVars_none hV
  obtain ⟨a0, len0, cap0, rfl⟩ := okWide_slice Try.underlying22 (hval 0 22 v0 rfl rfl)
  obtain ⟨a1, len1, cap1, rfl⟩ := okWide_slice Try.underlying23 (hval 1 23 v1 rfl rfl)
  obtain ⟨a2, len2, cap2, rfl⟩ := okWide_slice Try.underlying22 (hval 2 22 v2 rfl rfl)
  obtain ⟨a3, len3, cap3, rfl⟩ := okWide_slice Try.underlying23 (hval 3 23 v3 rfl rfl)
  have k0 := h0
  have k1 := h1
  have k2 := h2
  have k3 := h3
  have lt0 : ∀ x ∈ p0, x.block < W.heap.size := by obtain ⟨m, hm⟩ := k0; exact DataW.trod_lt m _ _ _ hm
  have lt1 : ∀ x ∈ p1, x.block < W.heap.size := by obtain ⟨m, hm⟩ := k1; exact DataW.trod_lt m _ _ _ hm
  have lt2 : ∀ x ∈ p2, x.block < W.heap.size := by obtain ⟨m, hm⟩ := k2; exact DataW.trod_lt m _ _ _ hm
  have lt3 : ∀ x ∈ p3, x.block < W.heap.size := by obtain ⟨m, hm⟩ := k3; exact DataW.trod_lt m _ _ _ hm
  obtain ⟨S0, s0, z0, m0⟩ := strs_in h0
  obtain ⟨C1, s1, z1, m1, b1⟩ := cnts_in h1
  obtain ⟨S2, s2, z2, m2⟩ := strs_in h2
  obtain ⟨C3, s3, z3, m3, b3⟩ := cnts_in h3
  clear hA0 hval0
  refine (walk a0 len0 cap0 a1 len1 cap1 a2 len2 cap2 a3 len3 cap3 S0 S2 C1 C3 W ⟨s0, s1, s2, s3, z0, z1, z2, z3, m0, m1, m2, m3, b1, b3⟩).mono fun e W' ⟨he, bel⟩ => ?_
  subst he
  exact ⟨_, rfl, _, _, _, [], _, [], hW', trodAll_mk1 (shut_bool Try.underlying4 _), (trodAll_cons_mk (Below.trod laidOut (by kernel_rfl) (of_decide_eq_true (by kernel_rfl)) k0 bel lt0) (trodAll_cons_mk (Below.trod laidOut (by kernel_rfl) (of_decide_eq_true (by kernel_rfl)) k1 bel lt1) (trodAll_cons_mk (Below.trod laidOut (by kernel_rfl) (of_decide_eq_true (by kernel_rfl)) k2 bel lt2) (trodAll_cons_mk (Below.trod laidOut (by kernel_rfl) (of_decide_eq_true (by kernel_rfl)) k3 bel lt3) trodAll_mk0)))), rfl, bel.frame _, fun h => by cases h⟩

theorem over : Rows.fnSameHostsIsCommonPrefixRow.holds Try.pinned (OpenSpec.ofChange Rows.fnSameHostsIsCommonPrefixSpec) :=
  OpenClaim.holds_of_wide 3 Try.f3 rfl rfl rfl rfl rfl rfl rfl ⟨rfl, rfl, rfl, rfl, rfl⟩ rfl rfl rfl rfl rfl (by kernel_rfl) Try.func3 (by kernel_rfl)
    (of_decide_eq_true (by kernel_rfl)) (by unfold Func.isWrapper; first | (rw [if_pos (by decide +kernel)]; kernel_rfl) | (rw [if_neg (by decide +kernel)]; exact ⟨rfl, rfl⟩))
    (fun os started H enc _ => lifted os started H enc)

/-- THE STATEMENT -/
theorem proved : Rows.FnSameHostsIsCommonPrefixSaid := over
end Go.Proofs.Qxb6605503a.fnSameHostsIsCommonPrefix
