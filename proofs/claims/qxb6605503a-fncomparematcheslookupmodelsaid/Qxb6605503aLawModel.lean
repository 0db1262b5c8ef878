import Derived.Test.Qxb6605503aRel
import Derived.Test.Qxb6605503aClone
import Derived.Test.Qxb6605503aSizes
import Derived.Test.Qxb6605503aLift
namespace Go.Proofs.Qxb6605503a.fnCompareMatchesLookupModel
open Go.ChangeShapes Go.WideShapes Go.ChangeAt Go.RowKit
set_option linter.unusedVariables false

set_option maxRecDepth 100000 in
set_option maxHeartbeats 1000000 in
theorem walk (a1 : Option Addr) (n1 c1 : Nat) (a2 : Option Addr) (n2 c2 : Nat) (a3 : Option Addr) (n3 c3 : Nat) (a4 : Option Addr) (n4 c4 : Nat) (S1 S3 : Nat → ByteArray) (C2 C4 : Nat → Int) (w : World)
    (A : Args4 w a1 n1 c1 a2 n2 c2 a3 n3 c3 a4 n4 c4 S1 S3 C2 C4) :
    Calls Try.prog 6 #[.slice a1 n1 c1, .slice a2 n2 c2, .slice a3 n3 c3, .slice a4 n4 c4] w fun e w' => e = .returned (.bool true) ∧ Below w.heap.size w w' := by
  go_enter Try.func6, Try.ntmps6
  go_wp2_with fail
  refine (bytes22 a1 a2 a3 a4 n1 n2 n3 n4 c1 c2 c3 c4 S1 S3 w A.s1 A.s3 A.m1 A.m2 A.m3 A.m4).mono ?_
  rintro e w' ⟨r, rfl, rfl, hr⟩
  cases r with
  | false =>
    go_wp2
    go_ret
    exact ⟨rfl, Below.refl _ _⟩
  | true =>
  obtain ⟨m1, m2, m3, m4⟩ := hr rfl
  clear hr
  go_wp2_with fail
  refine (toobig a1 a2 a3 a4 n1 n2 n3 n4 c1 c2 c3 c4 S1 S3 w' A.s1 A.s3 m1 m2 m3 m4).mono ?_
  rintro e w ⟨r, rfl, rfl, _⟩
  cases r with
  | true =>
    go_wp2
    go_ret
    exact ⟨rfl, Below.refl _ _⟩
  | false =>
  by_cases e1 : ¬ n1 = n2
  · have e1' : ((n1 : Int) != (n2 : Int)) = true := by rw [bne_iff_ne]; omega
    go_wp2
    go_ret
    exact ⟨rfl, Below.refl _ _⟩
  replace e1 := Classical.not_not.1 e1
  by_cases e2 : ¬ n3 = n4
  · have e1' : ((n1 : Int) != (n2 : Int)) = false := by rw [e1]; exact bne_self_eq_false _
    have e2' : ((n3 : Int) != (n4 : Int)) = true := by rw [bne_iff_ne]; omega
    clear e1
    go_wp2
    go_ret
    exact ⟨rfl, Below.refl _ _⟩
  replace e2 := Classical.not_not.1 e2
  subst e1 e2
  -- both clocks are well formed, or true is returned
  go_wp2_with fail
  refine (shaped_any a1 a2 n1 c1 n1 c2 S1 C2 w A.s1 A.s2 m1 m1).mono ?_
  rintro e w' ⟨r, rfl, ⟨q1, rfl⟩, hso⟩
  cases r with
  | false =>
    go_wp2
    go_ret
    exact ⟨rfl, below_drewN _ _ _⟩
  | true =>
  obtain ⟨hso1, hp1⟩ := hso rfl
  have HSO : Hid (Sorted n1 S1) := hso1
  have HP1 : Hid (∀ i, i < n1 → 0 < C2 i) := fun i hi => by have := hp1 i hi; have := A.b2 i hi; omega
  clear hso hso1 hp1
  go_wp2_with fail
  refine (shaped_any a3 a4 n3 c3 n3 c4 S3 C4 (w.drewN q1) (A.s3.below (below_drewN _ _ _)) (A.s4.below (below_drewN _ _ _)) m3 m3).mono ?_
  rintro e w' ⟨r, rfl, ⟨q2, hw2⟩, hso⟩
  rw [World.drewN_drewN] at hw2
  subst hw2
  cases r with
  | false =>
    go_wp2
    go_ret
    exact ⟨rfl, below_drewN _ _ _⟩
  | true =>
  obtain ⟨hso1, hp1⟩ := hso rfl
  have HSS : Hid (Sorted n3 S3) := hso1
  have HP3 : Hid (∀ i, i < n3 → 0 < C4 i) := fun i hi => by have := hp1 i hi; have := A.b4 i hi; omega
  clear hso hso1 hp1
  have hw0 : Below w.heap.size w (w.drewN (q1 + q2)) := below_drewN _ _ _
  have A' : Args4 (w.drewN (q1 + q2)) a1 n1 c1 a2 n1 c2 a3 n3 c3 a4 n3 c4 S1 S3 C2 C4 := ⟨A.s1.below hw0, A.s2.below hw0, A.s3.below hw0, A.s4.below hw0, A.z1, A.z2, A.z3, A.z4, A.m1, A.m2, A.m3, A.m4, A.b2, A.b4⟩
  clear A
  generalize w.drewN (q1 + q2) = w0 at *
  go_wp2_with fail
  refine (clone_strs a1 n1 c1 S1 w0 A'.s1 A'.z1 m1).mono ?_
  rintro e w1 ⟨a1', c1', rfl, s1, z1, b1⟩
  have t2 := A'.s2.below b1
  have t3 := A'.s3.below b1
  have t4 := A'.s4.below b1
  go_wp2_with fail
  refine (clone_cnts a2 n1 c2 C2 w1 t2 A'.z2 m1).mono ?_
  rintro e w2 ⟨a2', c2', rfl, s2, z2, b2⟩
  replace s1 := s1.below b2
  replace t3 := t3.below b2
  replace t4 := t4.below b2
  go_wp2_with fail
  refine (clone_strs a3 n3 c3 S3 w2 t3 A'.z3 m3).mono ?_
  rintro e w3 ⟨a3', c3', rfl, s3, z3, b3⟩
  replace s1 := s1.below b3
  replace s2 := s2.below b3
  replace t4 := t4.below b3
  go_wp2_with fail
  refine (clone_cnts a4 n3 c4 C4 w3 t4 A'.z4 m3).mono ?_
  rintro e w4 ⟨a4', c4', rfl, s4, z4, b4⟩
  replace s1 := s1.below b4
  replace s2 := s2.below b4
  replace s3 := s3.below b4
  have B4 : Below w0.heap.size w0 w4 := ((b1.trans (b2.mono b1.size)).trans (b3.mono (Nat.le_trans b1.size b2.size))).trans (b4.mono (Nat.le_trans (Nat.le_trans b1.size b2.size) b3.size))
  have hz : w.heap.size ≤ w4.heap.size := Nat.le_trans hw0.size B4.size
  replace B4 : Below w.heap.size w w4 := hw0.trans (B4.mono hw0.size)
  clear A' t2 t3 t4 z2 z4 b1 b2 b3 b4 hw0
  go_wp2_with fail
  refine (zzclock_any a1' a2' n1 c1' c2' S1 C2 w4 s1 s2 z1 m1).mono ?_
  rintro e w5 ⟨x, cx, rfl, ex, kx, b5⟩
  have hB : Below w5.heap.size w5 (w5.alloc (Obj.cells #[.slice x n1 cx] 37)) := (Below.refl _ _).alloc (Nat.le_refl _) _
  have gx : (w5.alloc (Obj.cells #[.slice x n1 cx] 37)).cell? ⟨w5.heap.size, 0, none⟩ = some (.slice x n1 cx) := by simp [go_sem]
  have lx : w5.heap.size < (w5.alloc (Obj.cells #[.slice x n1 cx] 37)).heap.size := by simp
  go_wp2_with fail
  generalize w5.alloc (Obj.cells #[.slice x n1 cx] 37) = w6 at *
  replace s1 := (s1.below b5).below hB
  replace s2 := (s2.below b5).below hB
  replace s3 := (s3.below b5).below hB
  replace s4 := (s4.below b5).below hB
  replace ex := ex.below hB
  have B6 : Below w.heap.size w w6 := (B4.trans (b5.mono hz)).trans (hB.mono (Nat.le_trans hz b5.size))
  have hz6 : w.heap.size ≤ w6.heap.size := B6.size
  clear b5 hB B4 hz
  refine (zzclock_any a3' a4' n3 c3' c4' S3 C4 w6 s3 s4 z3 m3).mono ?_
  rintro e w7 ⟨y, cy, rfl, ey, ky, b7⟩
  have hB : Below w7.heap.size w7 (w7.alloc (Obj.cells #[.slice y n3 cy] 37)) := (Below.refl _ _).alloc (Nat.le_refl _) _
  have gy : (w7.alloc (Obj.cells #[.slice y n3 cy] 37)).cell? ⟨w7.heap.size, 0, none⟩ = some (.slice y n3 cy) := by simp [go_sem]
  have ly : w7.heap.size < (w7.alloc (Obj.cells #[.slice y n3 cy] 37)).heap.size := by simp
  have gx7 : w7.cell? ⟨w5.heap.size, 0, none⟩ = some (.slice x n1 cx) := by rw [← gx]; exact b7.cell lx
  have gx8 : (w7.alloc (Obj.cells #[.slice y n3 cy] 37)).cell? ⟨w5.heap.size, 0, none⟩ = some (.slice x n1 cx) := by rw [← gx7]; exact hB.cell (Nat.lt_of_lt_of_le lx b7.size)
  have lx8 : w5.heap.size < (w7.alloc (Obj.cells #[.slice y n3 cy] 37)).heap.size := Nat.lt_of_lt_of_le (Nat.lt_of_lt_of_le lx b7.size) hB.size
  go_wp2_with fail
  generalize w7.alloc (Obj.cells #[.slice y n3 cy] 37) = w8 at *
  replace s1 := (s1.below b7).below hB
  replace s2 := (s2.below b7).below hB
  replace s3 := (s3.below b7).below hB
  replace s4 := (s4.below b7).below hB
  replace ex := (ex.below b7).below hB
  replace ey := ey.below hB
  have B8 : Below w.heap.size w w8 := (B6.trans (b7.mono hz6)).trans (hB.mono (Nat.le_trans hz6 b7.size))
  have hz8 : w.heap.size ≤ w8.heap.size := B8.size
  clear b7 hB B6 hz6 gx gx7 lx
  refine (compare_any x y n1 cx n3 cy S1 S3 C2 C4 w8 ex ey kx ky m1 m3 HSO.out HSS.out HP1.out HP3.out).mono ?_
  rintro e w9 ⟨b, a, rfl, hb, ha, b9⟩
  obtain ⟨r, hr⟩ : ∃ r, r = relCode b a := ⟨_, rfl⟩
  rw [← hr]
  have HB : Hid (b = true ↔ BelowP n1 S1 C2 n3 S3 C4) := hb
  have HA : Hid (a = true ↔ BelowP n3 S3 C4 n1 S1 C2) := ha
  have HR : Hid (r = relCode b a) := hr
  clear hb ha hr
  replace s1 := s1.below b9
  replace s2 := s2.below b9
  replace s3 := s3.below b9
  replace s4 := s4.below b9
  have B9 : Below w.heap.size w w9 := B8.trans (b9.mono hz8)
  clear b9 B8 hz8 gx8 gy lx8 ly ex ey
  go_wp2_with fail
  refine (model_any a1' a2' a3' a4' n1 n3 c1' c2' c3' c4' S1 S3 C2 C4 w9 s1 s2 s3 s4 m1 m3 HSO.out HSS.out (fun i hi => Int.le_of_lt (HP1.out i hi)) (fun i hi => Int.le_of_lt (HP3.out i hi))).mono ?_
  rintro e w10 ⟨rfl, b', a', rfl, hb, ha⟩
  obtain rfl : b' = b := Bool.eq_iff_iff.2 (hb.trans HB.out.symm)
  obtain rfl : a' = a := Bool.eq_iff_iff.2 (ha.trans HA.out.symm)
  clear hb ha
  rw [← HR.out]
  go_wp2
  go_ret
  exact ⟨by simp, B9⟩

/-! ### THE ROW's STEP -/
set_option maxRecDepth 100000 in
theorem lifted (os : Os) (started : os.Started) (H : Type) (enc : TypeId × Value → H) :
    ReturnsInHanded {} Try.checked os 6 .any (Rows.fnCompareMatchesLookupModelSpec.pre6 enc Try.prog Try.f6 Rows.fnCompareMatchesLookupModelRow.domain false) (Rows.fnCompareMatchesLookupModelSpec.post enc Try.prog Try.f6 false true false false) := by
  refine returnsInHanded_of_change (C := Try.checked) own started (by kernel_rfl) Try.func6
    (ChangeSpec.witness6 (enc := enc) (C := Try.checked) false ⟨#[], #[.slice none 0 0, .slice none 0 0, .slice none 0 0, .slice none 0 0], []⟩ 8 (by kernel_rfl) (by kernel_rfl) (by kernel_rfl) (by kernel_rfl)) ?_
  intro W base args ds gs before hval0 hW hcnd _
  have hval : ∀ (j : Nat) t v, Try.f6.params[j]? = some t → args[j]? = some v → Value.okWide Try.prog W .any base t v := hval0
  have hW' := hW
  obtain ⟨p, q, hA0, hV, rfl, hfz, hnd⟩ := hW
  have hA : DataW.TrodAll enc Try.prog W 0 (fun _ => true) true Try.f6.params.toList args.toList ds p := hA0
  rw [Try.params6] at hA hval
  obtain ⟨v0, vs0, d0, ds0, p0, q0, hargs, rfl, rfl, h0, r0⟩ := trodAll_cons hA
  obtain ⟨v1, vs1, d1, ds1, p1, q1, rfl, rfl, rfl, h1, r1⟩ := trodAll_cons r0
  obtain ⟨v2, vs2, d2, ds2, p2, q2, rfl, rfl, rfl, h2, r2⟩ := trodAll_cons r1
  obtain ⟨v3, vs3, d3, ds3, p3, q3, rfl, rfl, rfl, h3, r3⟩ := trodAll_cons r2
  obtain ⟨rfl, rfl, rfl⟩ := trodAll_nil r3
  obtain rfl : args = #[v0, v1, v2, v3] := by cases args; simp_all
  obtain ⟨rfl, rfl⟩ := trodVars_none hV
  obtain ⟨a0, len0, cap0, rfl⟩ := okWide_slice Try.underlying22 (hval 0 22 v0 rfl rfl)
  obtain ⟨a1, len1, cap1, rfl⟩ := okWide_slice Try.underlying23 (hval 1 23 v1 rfl rfl)
  obtain ⟨a2, len2, cap2, rfl⟩ := okWide_slice Try.underlying22 (hval 2 22 v2 rfl rfl)
  obtain ⟨a3, len3, cap3, rfl⟩ := okWide_slice Try.underlying23 (hval 3 23 v3 rfl rfl)
  have k0 := h0
  have k1 := h1
  have k2 := h2
  have k3 := h3
  have lt0 : ∀ x ∈ p0, x.block < W.heap.size := by obtain ⟨m, hm⟩ := k0; exact DataW.trod_lt m _ _ _ hm
  have lt1 : ∀ x ∈ p1, x.block < W.heap.size := by obtain ⟨m, hm⟩ := k1; exact DataW.trod_lt m _ _ _ hm
  have lt2 : ∀ x ∈ p2, x.block < W.heap.size := by obtain ⟨m, hm⟩ := k2; exact DataW.trod_lt m _ _ _ hm
  have lt3 : ∀ x ∈ p3, x.block < W.heap.size := by obtain ⟨m, hm⟩ := k3; exact DataW.trod_lt m _ _ _ hm
  obtain ⟨S0, s0, z0, m0⟩ := strs_in h0
  obtain ⟨C1, s1, z1, m1, b1⟩ := cnts_in h1
  obtain ⟨S2, s2, z2, m2⟩ := strs_in h2
  obtain ⟨C3, s3, z3, m3, b3⟩ := cnts_in h3
  clear hA0 hval0
  refine (walk a0 len0 cap0 a1 len1 cap1 a2 len2 cap2 a3 len3 cap3 S0 S2 C1 C3 W ⟨s0, s1, s2, s3, z0, z1, z2, z3, m0, m1, m2, m3, b1, b3⟩).mono fun e W' ⟨he, bel⟩ => ?_
  subst he
  exact ⟨_, rfl, _, _, _, [], _, [], hW', trodAll_mk1 (shut_bool Try.underlying4 _), (trodAll_cons_mk (Below.trod laidOut (by kernel_rfl) (of_decide_eq_true (by kernel_rfl)) k0 bel lt0) (trodAll_cons_mk (Below.trod laidOut (by kernel_rfl) (of_decide_eq_true (by kernel_rfl)) k1 bel lt1) (trodAll_cons_mk (Below.trod laidOut (by kernel_rfl) (of_decide_eq_true (by kernel_rfl)) k2 bel lt2) (trodAll_cons_mk (Below.trod laidOut (by kernel_rfl) (of_decide_eq_true (by kernel_rfl)) k3 bel lt3) trodAll_mk0)))), rfl, bel.frame _, fun h => by cases h⟩

theorem over : Rows.fnCompareMatchesLookupModelRow.holds Try.pinned (OpenSpec.ofChange Rows.fnCompareMatchesLookupModelSpec) :=
  OpenClaim.holds_of_wide 6 Try.f6 rfl rfl rfl rfl rfl rfl rfl ⟨rfl, rfl, rfl, rfl, rfl⟩ rfl rfl rfl rfl rfl (by kernel_rfl) Try.func6 (by kernel_rfl)
    (of_decide_eq_true (by kernel_rfl)) (by unfold Func.isWrapper; first | (rw [if_pos (by decide +kernel)]; kernel_rfl) | (rw [if_neg (by decide +kernel)]; exact ⟨rfl, rfl⟩))
    (fun os started H enc _ => lifted os started H enc)

/-- THE STATEMENT -/
theorem proved : Rows.FnCompareMatchesLookupModelSaid := over
end Go.Proofs.Qxb6605503a.fnCompareMatchesLookupModel
