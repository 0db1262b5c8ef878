import Derived.Test.Qxb6605503aModel
import Derived.Test.Qxb6605503aZZRaise
import Derived.Test.Qxb6605503aSizes
import Derived.Test.Qxb6605503aLift
namespace Go.Proofs.Qxb6605503a.fnRaiseToIsJoinUnderCompare
open Go.ChangeShapes Go.WideShapes Go.ChangeAt Go.RowKit
set_option linter.unusedVariables false

/-- The raised clock looks up the larger count. -/
theorem look_raised {n1 n3 : Nat} {S1 S3 : Nat → ByteArray} {C2 C4 : Nat → Int} (s1 : Sorted n1 S1) (hsub : ∀ i, i < n3 → ∃ j, j < n1 ∧ S1 j = S3 i) (h : ByteArray) :
    look n1 S1 (fullC S1 C2 n3 S3 C4) h = max (look n1 S1 C2 h) (look n3 S3 C4 h) := by
  rcases look_cases n1 S1 C2 h with ⟨i, hi, rfl, e⟩ | ⟨hm, e⟩
  · rw [look_hit _ s1 hi, e]; rfl
  · rw [look_miss _ _ _ _ hm, e, look_miss n3 S3 C4 h]
    · rfl
    · intro i hi e2
      obtain ⟨j, hj, e3⟩ := hsub i hi
      exact hm j hj (e3.trans e2)
theorem join_1 {n1 n3 : Nat} {S1 S3 : Nat → ByteArray} {C2 C4 F : Nat → Int} (hl : ∀ h, look n1 S1 F h = max (look n1 S1 C2 h) (look n3 S3 C4 h)) : ¬ BelowP n1 S1 F n1 S1 C2 ∧ (BelowP n1 S1 C2 n1 S1 F ↔ BelowP n1 S1 C2 n3 S3 C4) := by
  constructor
  · rintro ⟨h, g⟩; rw [hl] at g; omega
  · constructor
    · rintro ⟨h, g⟩; rw [hl] at g; exact ⟨h, by omega⟩
    · rintro ⟨h, g⟩; exact ⟨h, by rw [hl]; omega⟩
theorem join_2 {n1 n3 : Nat} {S1 S3 : Nat → ByteArray} {C2 C4 F : Nat → Int} (hl : ∀ h, look n1 S1 F h = max (look n1 S1 C2 h) (look n3 S3 C4 h)) : ¬ BelowP n1 S1 F n3 S3 C4 ∧ (BelowP n3 S3 C4 n1 S1 F ↔ BelowP n3 S3 C4 n1 S1 C2) := by
  constructor
  · rintro ⟨h, g⟩; rw [hl] at g; omega
  · constructor
    · rintro ⟨h, g⟩; rw [hl] at g; exact ⟨h, by omega⟩
    · rintro ⟨h, g⟩; exact ⟨h, by rw [hl]; omega⟩

set_option maxRecDepth 100000 in
set_option maxHeartbeats 1000000 in
theorem walk (a1 : Option Addr) (n1 c1 : Nat) (a2 : Option Addr) (n2 c2 : Nat) (a3 : Option Addr) (n3 c3 : Nat) (a4 : Option Addr) (n4 c4 : Nat) (S1 S3 : Nat → ByteArray) (C2 C4 : Nat → Int) (w : World)
    (A : Args4 w a1 n1 c1 a2 n2 c2 a3 n3 c3 a4 n4 c4 S1 S3 C2 C4) :
    Calls Try.prog 5 #[.slice a1 n1 c1, .slice a2 n2 c2, .slice a3 n3 c3, .slice a4 n4 c4] w fun e w' => e = .returned (.bool true) ∧ Below w.heap.size w w' := by
  go_enter Try.func5, Try.ntmps5
  go_wp2_with fail
  refine (bytes18 a1 a2 a3 a4 n1 n2 n3 n4 c1 c2 c3 c4 S1 S3 w A.s1 A.s3 A.m1 A.m2 A.m3 A.m4).mono ?_
  rintro e w' ⟨r, rfl, rfl, hr⟩
  cases r with
  | false =>
    go_wp2
    go_ret
    exact ⟨rfl, Below.refl _ _⟩
  | true =>
  obtain ⟨m1, m2, m3, m4⟩ := hr rfl
  clear hr
  go_wp2_with fail
  refine (toobig a1 a2 a3 a4 n1 n2 n3 n4 c1 c2 c3 c4 S1 S3 w' A.s1 A.s3 m1 m2 m3 m4).mono ?_
  rintro e w ⟨r, rfl, rfl, _⟩
  cases r with
  | true =>
    go_wp2
    go_ret
    exact ⟨rfl, Below.refl _ _⟩
  | false =>
  by_cases e1 : ¬ n1 = n2
  · have e1' : ((n1 : Int) != (n2 : Int)) = true := by rw [bne_iff_ne]; omega
    go_wp2
    go_ret
    exact ⟨rfl, Below.refl _ _⟩
  replace e1 := Classical.not_not.1 e1
  by_cases e2 : ¬ n3 = n4
  · have e1' : ((n1 : Int) != (n2 : Int)) = false := by rw [e1]; exact bne_self_eq_false _
    have e2' : ((n3 : Int) != (n4 : Int)) = true := by rw [bne_iff_ne]; omega
    clear e1
    go_wp2
    go_ret
    exact ⟨rfl, Below.refl _ _⟩
  replace e2 := Classical.not_not.1 e2
  subst e1 e2
  -- both clocks are well formed, or true is returned
  go_wp2_with fail
  refine (shaped_any a1 a2 n1 c1 n1 c2 S1 C2 w A.s1 A.s2 m1 m1).mono ?_
  rintro e w' ⟨r, rfl, ⟨q1, rfl⟩, hso⟩
  cases r with
  | false =>
    go_wp2
    go_ret
    exact ⟨rfl, below_drewN _ _ _⟩
  | true =>
  obtain ⟨hso1, hp1⟩ := hso rfl
  have HSO : Hid (Sorted n1 S1) := hso1
  have HP1 : Hid (∀ i, i < n1 → 0 < C2 i) := fun i hi => by have := hp1 i hi; have := A.b2 i hi; omega
  clear hso hso1 hp1
  go_wp2_with fail
  refine (shaped_any a3 a4 n3 c3 n3 c4 S3 C4 (w.drewN q1) (A.s3.below (below_drewN _ _ _)) (A.s4.below (below_drewN _ _ _)) m3 m3).mono ?_
  rintro e w' ⟨r, rfl, ⟨q2, hw2⟩, hso⟩
  rw [World.drewN_drewN] at hw2
  subst hw2
  cases r with
  | false =>
    go_wp2
    go_ret
    exact ⟨rfl, below_drewN _ _ _⟩
  | true =>
  obtain ⟨hso1, hp1⟩ := hso rfl
  have HSS : Hid (Sorted n3 S3) := hso1
  have HP3 : Hid (∀ i, i < n3 → 0 < C4 i) := fun i hi => by have := hp1 i hi; have := A.b4 i hi; omega
  clear hso hso1 hp1
  have hw0 : Below w.heap.size w (w.drewN (q1 + q2)) := below_drewN _ _ _
  have A' : Args4 (w.drewN (q1 + q2)) a1 n1 c1 a2 n1 c2 a3 n3 c3 a4 n3 c4 S1 S3 C2 C4 := ⟨A.s1.below hw0, A.s2.below hw0, A.s3.below hw0, A.s4.below hw0, A.z1, A.z2, A.z3, A.z4, A.m1, A.m2, A.m3, A.m4, A.b2, A.b4⟩
  clear A
  generalize w.drewN (q1 + q2) = w0 at *
  go_wp2_with fail
  refine (subset_any a3 a1 n3 c3 n1 c1 S3 S1 w0 A'.s3 A'.s1 m3 m1 HSO.out).mono ?_
  rintro e w' ⟨rfl, r, rfl, hs1, _⟩
  cases r with
  | false =>
    go_wp2
    go_ret
    exact ⟨rfl, hw0⟩
  | true =>
  have HSB : Hid (∀ i, i < n3 → ∃ j, j < n1 ∧ S1 j = S3 i) := hs1 rfl
  clear hs1
  go_wp2_with fail
  refine (clone_strs a1 n1 c1 S1 w' A'.s1 A'.z1 m1).mono ?_
  rintro e w1 ⟨a1', c1', rfl, s1, z1, b1⟩
  have t2 := A'.s2.below b1
  have t3 := A'.s3.below b1
  have t4 := A'.s4.below b1
  go_wp2_with fail
  refine (clone_cnts a2 n1 c2 C2 w1 t2 A'.z2 m1).mono ?_
  rintro e w2 ⟨a2', c2', rfl, s2, z2, b2⟩
  replace s1 := s1.below b2
  replace t3 := t3.below b2
  replace t4 := t4.below b2
  go_wp2_with fail
  refine (clone_strs a3 n3 c3 S3 w2 t3 A'.z3 m3).mono ?_
  rintro e w3 ⟨a3', c3', rfl, s3, z3, b3⟩
  replace s1 := s1.below b3
  replace s2 := s2.below b3
  replace t4 := t4.below b3
  go_wp2_with fail
  refine (clone_cnts a4 n3 c4 C4 w3 t4 A'.z4 m3).mono ?_
  rintro e w4 ⟨a4', c4', rfl, s4, z4, b4⟩
  replace s1 := s1.below b4
  replace s2 := s2.below b4
  replace s3 := s3.below b4
  have B4 : Below w'.heap.size w' w4 := ((b1.trans (b2.mono b1.size)).trans (b3.mono (Nat.le_trans b1.size b2.size))).trans (b4.mono (Nat.le_trans (Nat.le_trans b1.size b2.size) b3.size))
  have hz : w.heap.size ≤ w4.heap.size := Nat.le_trans hw0.size B4.size
  replace B4 : Below w.heap.size w w4 := hw0.trans (B4.mono hw0.size)
  clear A' t2 t3 t4 z2 z4 b1 b2 b3 b4 hw0
  go_wp2_with fail
  refine (zzraise_any a1' a2' a3' a4' n1 n3 c1' c2' c3' c4' S1 S3 C2 C4 w4 s1 s2 s3 s4 z1 z3 m1 m3 HSO.out HSS.out (fun j hj => Int.le_of_lt (HP1.out j hj))).mono ?_
  rintro e w5 ⟨r', ah, ch, ac, cc, rfl, hr1, hr2, sh, sc, zh, _, b5⟩
  obtain rfl : r' = true := by
    cases r'
    · obtain ⟨i, hi, hn⟩ := hr2 rfl
      obtain ⟨j, hj, e⟩ := HSB.out i hi
      exact absurd e (hn j hj)
    · rfl
  simp only [if_true] at sc
  obtain ⟨F, hF⟩ : ∃ F, F = fullC S1 C2 n3 S3 C4 := ⟨_, rfl⟩
  rw [← hF] at sc
  have HPF : Hid (∀ i, i < n1 → 0 < F i) := fun i hi => by rw [hF]; have := HP1.out i hi; simp only [fullC]; omega
  have HLK : Hid (∀ h, look n1 S1 F h = max (look n1 S1 C2 h) (look n3 S3 C4 h)) := by rw [hF]; exact look_raised HSO.out HSB.out
  clear hF hr1 hr2
  replace s1 := s1.below b5
  replace s2 := s2.below b5
  replace s3 := s3.below b5
  replace s4 := s4.below b5
  have BW : Below w.heap.size w w5 := B4.trans (b5.mono hz)
  replace hz : w.heap.size ≤ w5.heap.size := BW.size
  clear b5 B4
  go_wp2_with fail
  refine (zzclock_any ah ac n1 ch cc S1 F w5 sh sc zh m1).mono ?_
  rintro e w6 ⟨x, cx, rfl, ex, kx, bb⟩
  have hB : Below w6.heap.size w6 (w6.alloc (Obj.cells #[.slice x n1 cx] 37)) := (Below.refl _ _).alloc (Nat.le_refl _) _
  have gx : (w6.alloc (Obj.cells #[.slice x n1 cx] 37)).cell? ⟨w6.heap.size, 0, none⟩ = some (.slice x n1 cx) := by simp [go_sem]
  have lx : w6.heap.size < (w6.alloc (Obj.cells #[.slice x n1 cx] 37)).heap.size := by simp
  go_wp2_with fail
  generalize w6.alloc (Obj.cells #[.slice x n1 cx] 37) = w7 at *
  replace ex := ex.below hB
  replace s1 := (s1.below bb).below hB
  replace s2 := (s2.below bb).below hB
  replace s3 := (s3.below bb).below hB
  replace s4 := (s4.below bb).below hB
  replace BW : Below w.heap.size w w7 := (BW.trans (bb.mono hz)).trans (hB.mono (Nat.le_trans hz bb.size))
  replace hz : w.heap.size ≤ w7.heap.size := BW.size
  clear bb hB
  refine (zzclock_any a1' a2' n1 c1' c2' S1 C2 w7 s1 s2 z1 m1).mono ?_
  rintro e w8 ⟨y, cy, rfl, ey, ky, bb⟩
  have hB : Below w8.heap.size w8 (w8.alloc (Obj.cells #[.slice y n1 cy] 37)) := (Below.refl _ _).alloc (Nat.le_refl _) _
  have gy : (w8.alloc (Obj.cells #[.slice y n1 cy] 37)).cell? ⟨w8.heap.size, 0, none⟩ = some (.slice y n1 cy) := by simp [go_sem]
  have ly : w8.heap.size < (w8.alloc (Obj.cells #[.slice y n1 cy] 37)).heap.size := by simp
  replace gx : (w8.alloc (Obj.cells #[.slice y n1 cy] 37)).cell? ⟨w6.heap.size, 0, none⟩ = some (.slice x n1 cx) := by rw [← gx, hB.cell (Nat.lt_of_lt_of_le lx bb.size)]; exact bb.cell lx
  replace lx : w6.heap.size < (w8.alloc (Obj.cells #[.slice y n1 cy] 37)).heap.size := Nat.lt_of_lt_of_le (Nat.lt_of_lt_of_le lx bb.size) hB.size
  go_wp2_with fail
  generalize w8.alloc (Obj.cells #[.slice y n1 cy] 37) = w9 at *
  replace ey := ey.below hB
  replace s3 := (s3.below bb).below hB
  replace s4 := (s4.below bb).below hB
  replace ex := (ex.below bb).below hB
  replace BW : Below w.heap.size w w9 := (BW.trans (bb.mono hz)).trans (hB.mono (Nat.le_trans hz bb.size))
  replace hz : w.heap.size ≤ w9.heap.size := BW.size
  clear bb hB
  refine (zzclock_any a3' a4' n3 c3' c4' S3 C4 w9 s3 s4 z3 m3).mono ?_
  rintro e w10 ⟨z, cz, rfl, ez, kz, bb⟩
  have hB : Below w10.heap.size w10 (w10.alloc (Obj.cells #[.slice z n3 cz] 37)) := (Below.refl _ _).alloc (Nat.le_refl _) _
  have gz : (w10.alloc (Obj.cells #[.slice z n3 cz] 37)).cell? ⟨w10.heap.size, 0, none⟩ = some (.slice z n3 cz) := by simp [go_sem]
  have lz : w10.heap.size < (w10.alloc (Obj.cells #[.slice z n3 cz] 37)).heap.size := by simp
  replace gx : (w10.alloc (Obj.cells #[.slice z n3 cz] 37)).cell? ⟨w6.heap.size, 0, none⟩ = some (.slice x n1 cx) := by rw [← gx, hB.cell (Nat.lt_of_lt_of_le lx bb.size)]; exact bb.cell lx
  replace lx : w6.heap.size < (w10.alloc (Obj.cells #[.slice z n3 cz] 37)).heap.size := Nat.lt_of_lt_of_le (Nat.lt_of_lt_of_le lx bb.size) hB.size
  replace gy : (w10.alloc (Obj.cells #[.slice z n3 cz] 37)).cell? ⟨w8.heap.size, 0, none⟩ = some (.slice y n1 cy) := by rw [← gy, hB.cell (Nat.lt_of_lt_of_le ly bb.size)]; exact bb.cell ly
  replace ly : w8.heap.size < (w10.alloc (Obj.cells #[.slice z n3 cz] 37)).heap.size := Nat.lt_of_lt_of_le (Nat.lt_of_lt_of_le ly bb.size) hB.size
  go_wp2_with fail
  generalize w10.alloc (Obj.cells #[.slice z n3 cz] 37) = w11 at *
  replace ez := ez.below hB
  replace ex := (ex.below bb).below hB
  replace ey := (ey.below bb).below hB
  replace BW : Below w.heap.size w w11 := (BW.trans (bb.mono hz)).trans (hB.mono (Nat.le_trans hz bb.size))
  replace hz : w.heap.size ≤ w11.heap.size := BW.size
  clear bb hB
  clear s1 s2 s3 s4 sh sc
  refine (compare_any x y n1 cx n1 cy S1 S1 F C2 w11 ex ey kx ky m1 m1 HSO.out HSO.out HPF.out HP1.out).mono ?_
  rintro e w12 ⟨p1, q1, rfl, hp1, hq1, bb⟩
  have Hp1 : Hid (p1 = true ↔ BelowP n1 S1 F n1 S1 C2) := hp1
  have Hq1 : Hid (q1 = true ↔ BelowP n1 S1 C2 n1 S1 F) := hq1
  obtain ⟨rp1, hr⟩ : ∃ r, r = relCode p1 q1 := ⟨_, rfl⟩
  rw [← hr]
  have HRp1 : Hid (rp1 = relCode p1 q1) := hr
  clear hp1 hq1 hr
  replace gx : w12.cell? ⟨w6.heap.size, 0, none⟩ = some (.slice x n1 cx) := by rw [← gx]; exact bb.cell lx
  replace lx : w6.heap.size < w12.heap.size := Nat.lt_of_lt_of_le lx bb.size
  replace gy : w12.cell? ⟨w8.heap.size, 0, none⟩ = some (.slice y n1 cy) := by rw [← gy]; exact bb.cell ly
  replace ly : w8.heap.size < w12.heap.size := Nat.lt_of_lt_of_le ly bb.size
  replace gz : w12.cell? ⟨w10.heap.size, 0, none⟩ = some (.slice z n3 cz) := by rw [← gz]; exact bb.cell lz
  replace lz : w10.heap.size < w12.heap.size := Nat.lt_of_lt_of_le lz bb.size
  replace ex := ex.below bb
  replace ey := ey.below bb
  replace ez := ez.below bb
  replace BW : Below w.heap.size w w12 := BW.trans (bb.mono hz)
  replace hz : w.heap.size ≤ w12.heap.size := BW.size
  clear bb
  go_wp2_with fail
  refine (compare_any x z n1 cx n3 cz S1 S3 F C4 w12 ex ez kx kz m1 m3 HSO.out HSS.out HPF.out HP3.out).mono ?_
  rintro e w13 ⟨p2, q2, rfl, hp2, hq2, bb⟩
  have Hp2 : Hid (p2 = true ↔ BelowP n1 S1 F n3 S3 C4) := hp2
  have Hq2 : Hid (q2 = true ↔ BelowP n3 S3 C4 n1 S1 F) := hq2
  obtain ⟨rp2, hr⟩ : ∃ r, r = relCode p2 q2 := ⟨_, rfl⟩
  rw [← hr]
  have HRp2 : Hid (rp2 = relCode p2 q2) := hr
  clear hp2 hq2 hr
  replace gx : w13.cell? ⟨w6.heap.size, 0, none⟩ = some (.slice x n1 cx) := by rw [← gx]; exact bb.cell lx
  replace lx : w6.heap.size < w13.heap.size := Nat.lt_of_lt_of_le lx bb.size
  replace gy : w13.cell? ⟨w8.heap.size, 0, none⟩ = some (.slice y n1 cy) := by rw [← gy]; exact bb.cell ly
  replace ly : w8.heap.size < w13.heap.size := Nat.lt_of_lt_of_le ly bb.size
  replace gz : w13.cell? ⟨w10.heap.size, 0, none⟩ = some (.slice z n3 cz) := by rw [← gz]; exact bb.cell lz
  replace lz : w10.heap.size < w13.heap.size := Nat.lt_of_lt_of_le lz bb.size
  replace ex := ex.below bb
  replace ey := ey.below bb
  replace ez := ez.below bb
  replace BW : Below w.heap.size w w13 := BW.trans (bb.mono hz)
  replace hz : w.heap.size ≤ w13.heap.size := BW.size
  clear bb
  go_wp2_with fail
  refine (compare_any z y n3 cz n1 cy S3 S1 C4 C2 w13 ez ey kz ky m3 m1 HSS.out HSO.out HP3.out HP1.out).mono ?_
  rintro e w14 ⟨p3, q3, rfl, hp3, hq3, bb⟩
  have Hp3 : Hid (p3 = true ↔ BelowP n3 S3 C4 n1 S1 C2) := hp3
  have Hq3 : Hid (q3 = true ↔ BelowP n1 S1 C2 n3 S3 C4) := hq3
  obtain ⟨rp3, hr⟩ : ∃ r, r = relCode p3 q3 := ⟨_, rfl⟩
  rw [← hr]
  have HRp3 : Hid (rp3 = relCode p3 q3) := hr
  clear hp3 hq3 hr
  replace BW : Below w.heap.size w w14 := BW.trans (bb.mono hz)
  replace hz : w.heap.size ≤ w14.heap.size := BW.size
  clear bb
  obtain rfl : p1 = false := Bool.eq_false_iff.2 (fun h => (join_1 HLK.out).1 (Hp1.out.1 h))
  obtain rfl : p2 = false := Bool.eq_false_iff.2 (fun h => (join_2 HLK.out).1 (Hp2.out.1 h))
  obtain rfl : q1 = q3 := Bool.eq_iff_iff.2 ((Hq1.out.trans (join_1 HLK.out).2).trans Hq3.out.symm)
  obtain rfl : q2 = p3 := Bool.eq_iff_iff.2 ((Hq2.out.trans (join_2 HLK.out).2).trans Hp3.out.symm)
  clear Hp1 Hq1 Hp2 Hq2 Hp3 Hq3 ex ey ez gx gy gz
  cases q1 <;> cases q2
  · obtain rfl : rp1 = 4 := HRp1.out
    obtain rfl : rp2 = 4 := HRp2.out
    obtain rfl : rp3 = 4 := HRp3.out
    go_wp2
    go_ret
    exact ⟨rfl, BW⟩
  · obtain rfl : rp1 = 4 := HRp1.out
    obtain rfl : rp2 = 2 := HRp2.out
    obtain rfl : rp3 = 1 := HRp3.out
    go_wp2
    go_ret
    exact ⟨rfl, BW⟩
  · obtain rfl : rp1 = 2 := HRp1.out
    obtain rfl : rp2 = 4 := HRp2.out
    obtain rfl : rp3 = 2 := HRp3.out
    go_wp2
    go_ret
    exact ⟨rfl, BW⟩
  · obtain rfl : rp1 = 2 := HRp1.out
    obtain rfl : rp2 = 2 := HRp2.out
    obtain rfl : rp3 = 3 := HRp3.out
    go_wp2
    go_ret
    exact ⟨rfl, BW⟩

/-! ### THE ROW's STEP -/
set_option maxRecDepth 100000 in
theorem lifted (os : Os) (started : os.Started) (H : Type) (enc : TypeId × Value → H) :
    ReturnsInHanded {} Try.checked os 5 .any (Rows.fnRaiseToIsJoinUnderCompareSpec.pre6 enc Try.prog Try.f5 Rows.fnRaiseToIsJoinUnderCompareRow.domain false) (Rows.fnRaiseToIsJoinUnderCompareSpec.post enc Try.prog Try.f5 false true false false) := by
  refine returnsInHanded_of_change (C := Try.checked) own started (by kernel_rfl) Try.func5
    (ChangeSpec.witness6 (enc := enc) (C := Try.checked) false ⟨#[], #[.slice none 0 0, .slice none 0 0, .slice none 0 0, .slice none 0 0], []⟩ 8 (by kernel_rfl) (by kernel_rfl) (by kernel_rfl) (by kernel_rfl)) ?_
  intro W base args ds gs before hval0 hW hcnd _
  have hval : ∀ (j : Nat) t v, Try.f5.params[j]? = some t → args[j]? = some v → Value.okWide Try.prog W .any base t v := hval0
  have hW' := hW
  obtain ⟨p, q, hA0, hV, rfl, hfz, hnd⟩ := hW
  have hA : DataW.TrodAll enc Try.prog W 0 (fun _ => true) true Try.f5.params.toList args.toList ds p := hA0
  rw [Try.params5] at hA hval
  obtain ⟨v0, vs0, d0, ds0, p0, q0, hargs, rfl, rfl, h0, r0⟩ := trodAll_cons hA
  obtain ⟨v1, vs1, d1, ds1, p1, q1, rfl, rfl, rfl, h1, r1⟩ := trodAll_cons r0
  obtain ⟨v2, vs2, d2, ds2, p2, q2, rfl, rfl, rfl, h2, r2⟩ := trodAll_cons r1
  obtain ⟨v3, vs3, d3, ds3, p3, q3, rfl, rfl, rfl, h3, r3⟩ := trodAll_cons r2
  obtain ⟨rfl, rfl, rfl⟩ := trodAll_nil r3
  obtain rfl : args = #[v0, v1, v2, v3] := by cases args; simp_all
  obtain ⟨rfl, rfl⟩ := trodVars_none hV
  obtain ⟨a0, len0, cap0, rfl⟩ := okWide_slice Try.underlying22 (hval 0 22 v0 rfl rfl)
  obtain ⟨a1, len1, cap1, rfl⟩ := okWide_slice Try.underlying23 (hval 1 23 v1 rfl rfl)
  obtain ⟨a2, len2, cap2, rfl⟩ := okWide_slice Try.underlying22 (hval 2 22 v2 rfl rfl)
  obtain ⟨a3, len3, cap3, rfl⟩ := okWide_slice Try.underlying23 (hval 3 23 v3 rfl rfl)
  have k0 := h0
  have k1 := h1
  have k2 := h2
  have k3 := h3
  have lt0 : ∀ x ∈ p0, x.block < W.heap.size := by obtain ⟨m, hm⟩ := k0; exact DataW.trod_lt m _ _ _ hm
  have lt1 : ∀ x ∈ p1, x.block < W.heap.size := by obtain ⟨m, hm⟩ := k1; exact DataW.trod_lt m _ _ _ hm
  have lt2 : ∀ x ∈ p2, x.block < W.heap.size := by obtain ⟨m, hm⟩ := k2; exact DataW.trod_lt m _ _ _ hm
  have lt3 : ∀ x ∈ p3, x.block < W.heap.size := by obtain ⟨m, hm⟩ := k3; exact DataW.trod_lt m _ _ _ hm
  obtain ⟨S0, s0, z0, m0⟩ := strs_in h0
  obtain ⟨C1, s1, z1, m1, b1⟩ := cnts_in h1
  obtain ⟨S2, s2, z2, m2⟩ := strs_in h2
  obtain ⟨C3, s3, z3, m3, b3⟩ := cnts_in h3
  clear hA0 hval0
  refine (walk a0 len0 cap0 a1 len1 cap1 a2 len2 cap2 a3 len3 cap3 S0 S2 C1 C3 W ⟨s0, s1, s2, s3, z0, z1, z2, z3, m0, m1, m2, m3, b1, b3⟩).mono fun e W' ⟨he, bel⟩ => ?_
  subst he
  exact ⟨_, rfl, _, _, _, [], _, [], hW', trodAll_mk1 (shut_bool Try.underlying4 _), (trodAll_cons_mk (Below.trod laidOut (by kernel_rfl) (of_decide_eq_true (by kernel_rfl)) k0 bel lt0) (trodAll_cons_mk (Below.trod laidOut (by kernel_rfl) (of_decide_eq_true (by kernel_rfl)) k1 bel lt1) (trodAll_cons_mk (Below.trod laidOut (by kernel_rfl) (of_decide_eq_true (by kernel_rfl)) k2 bel lt2) (trodAll_cons_mk (Below.trod laidOut (by kernel_rfl) (of_decide_eq_true (by kernel_rfl)) k3 bel lt3) trodAll_mk0)))), rfl, bel.frame _, fun h => by cases h⟩

theorem over : Rows.fnRaiseToIsJoinUnderCompareRow.holds Try.pinned (OpenSpec.ofChange Rows.fnRaiseToIsJoinUnderCompareSpec) :=
  OpenClaim.holds_of_wide 5 Try.f5 rfl rfl rfl rfl rfl rfl rfl ⟨rfl, rfl, rfl, rfl, rfl⟩ rfl rfl rfl rfl rfl (by kernel_rfl) Try.func5 (by kernel_rfl)
    (of_decide_eq_true (by kernel_rfl)) (by unfold Func.isWrapper; first | (rw [if_pos (by decide +kernel)]; kernel_rfl) | (rw [if_neg (by decide +kernel)]; exact ⟨rfl, rfl⟩))
    (fun os started H enc _ => lifted os started H enc)

/-- THE STATEMENT -/
theorem proved : Rows.FnRaiseToIsJoinUnderCompareSaid := over
end Go.Proofs.Qxb6605503a.fnRaiseToIsJoinUnderCompare
