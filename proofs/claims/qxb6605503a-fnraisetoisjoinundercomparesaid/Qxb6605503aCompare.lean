import Derived.Test.Qxb6605503aSame
import Derived.Test.Qxb6605503aClock
namespace Go.Proofs.Qxb6605503a
open Go.RowKit

theorem ents_drop {w a n S C} (h : Ents w a n S C) (k c : Nat) (hk : k ≤ n) (hc : n ≤ c) : Ents w (if c = k then a else a.map (·.add (k * 2))) (n - k) (fun i => S (i + k)) (fun i => C (i + k)) := fun hn => by
  obtain ⟨b, off, rfl, h2⟩ := h (by omega)
  refine ⟨b, off + k * 2, ?_, fun i hi => ?_⟩
  · rw [if_neg (by omega)]
    simp only [Option.map_some, Addr.add]
    by_cases h0 : k * 2 = 0
    · rw [if_pos h0, h0]; rfl
    · rw [if_neg h0]
  · have := h2 (i + k) (by omega)
    rwa [show off + (i + k) * 2 = off + k * 2 + i * 2 from by omega] at this

/-- Compare's answer. -/
def CmpIs (w : World) (na : Nat) (A : Nat → ByteArray) (CA : Nat → Int) (nb : Nat) (B : Nat → ByteArray) (CB : Nat → Int) (e : Ending) (w' : World) : Prop :=
  ∃ b a : Bool, e = .returned (.int .i64 (relCode b a)) ∧ (b = true ↔ BelowP na A CA nb B CB) ∧ (a = true ↔ BelowP nb B CB na A CA) ∧ Below w.heap.size w w'

/-- Where the walk of Compare stands. -/
structure CmpInv (w0 : World) (na : Nat) (A : Nat → ByteArray) (CA : Nat → Int) (nb : Nat) (B : Nat → ByteArray) (CB : Nat → Int) (wr : World) (i j : Nat) (below above : Bool) (a0 : Option Addr) (n0 c0 : Nat) (a1 : Option Addr) (n1 c1 : Nat) : Prop where
  st : CmpSt na nb A B CA CB i j below above
  hi : i + n0 = na
  hj : j + n1 = nb
  e0 : Ents w0 a0 n0 (fun t => A (t + i)) (fun t => CA (t + i))
  e1 : Ents w0 a1 n1 (fun t => B (t + j)) (fun t => CB (t + j))
  k0 : n0 ≤ c0
  k1 : n1 ≤ c1
  dr : ∃ q, wr = w0.drewN q

def StepB (b b0 : Bool) (t : Nat) (P : Nat → Prop) : Prop := b = true ↔ b0 = true ∨ ∃ x, x < t ∧ P x
def FinB (b : Bool) (n : Nat) (p : Prop) : Prop := (b = true ∨ 0 < n) ↔ p
theorem or_step_true {b0 : Bool} {P : Nat → Prop} {t : Nat} (h : StepB true b0 t P) : StepB true b0 (t + 1) P := by
  refine ⟨fun _ => ?_, fun _ => rfl⟩
  rcases h.1 rfl with g | ⟨x, hx, hp⟩
  · exact .inl g
  · exact .inr ⟨x, by omega, hp⟩
theorem or_step_false {b0 : Bool} {P : Nat → Prop} {t : Nat} [Decidable (P t)] (h : StepB false b0 t P) : StepB (decide (P t)) b0 (t + 1) P := by
  unfold StepB at h ⊢
  rw [decide_eq_true_eq]
  refine ⟨fun g => .inr ⟨t, by omega, g⟩, ?_⟩
  rintro (g | ⟨x, hx, hp⟩)
  · exact absurd (h.2 (.inl g)) (by simp)
  · by_cases e : x = t
    · subst e; exact hp
    · exact absurd (h.2 (.inr ⟨x, by omega, hp⟩)) (by simp)
theorem step_zero {b b0 : Bool} {P : Nat → Prop} (e : b0 = b) : StepB b b0 0 P := by subst e; simp [StepB]
theorem fin_true {p : Prop} {n : Nat} (h : FinB true n p) : true = true ↔ p := ⟨fun _ => h.1 (.inl rfl), fun _ => rfl⟩
theorem fin_false {p : Prop} {n : Nat} (h : FinB false n p) : decide ((0 : Int) < (n : Int)) = true ↔ p := by
  unfold FinB at h
  rw [decide_eq_true_eq, ← h]
  constructor
  · intro g; exact .inr (by omega)
  · rintro (g | g)
    · cases g
    · omega
theorem fin_false' {p : Prop} {n : Nat} (h : FinB false n p) : decide (0 < n) = true ↔ p := by
  unfold FinB at h
  rw [decide_eq_true_eq, ← h]
  constructor
  · intro g; exact .inr g
  · rintro (g | g)
    · cases g
    · exact g
theorem fin_pos {p : Prop} {b : Bool} {n : Nat} (h : FinB b n p) (hn : 0 < n) : true = true ↔ p := ⟨fun _ => h.1 (.inr hn), fun _ => rfl⟩
theorem fin_zero {p : Prop} (h : FinB false 0 p) : false = true ↔ p := by
  unfold FinB at h
  rw [← h]; simp

def lenV : Value → Nat | .slice _ n _ => n | _ => 0

set_option maxHeartbeats 2000000 in
set_option maxRecDepth 100000 in
theorem compare_any (aa ab : Option Addr) (na ca nb cb : Nat) (A B : Nat → ByteArray) (CA CB : Nat → Int) (w : World) (hA : Ents w aa na A CA) (hB : Ents w ab nb B CB) (hca : na ≤ ca) (hcb : nb ≤ cb) (ma : na ≤ 1048576) (mb : nb ≤ 1048576)
    (sa : Sorted na A) (sb : Sorted nb B) (pa : ∀ t, t < na → 0 < CA t) (pb : ∀ t, t < nb → 0 < CB t) :
    Calls Try.prog 21 #[.agg #[.slice aa na ca], .agg #[.slice ab nb cb]] w (CmpIs w na A CA nb B CB) := by
  have HSA : Hid (Sorted na A) := sa
  have HSB : Hid (Sorted nb B) := sb
  have HPA : Hid (∀ t, t < na → 0 < CA t) := pa
  have HPB : Hid (∀ t, t < nb → 0 < CB t) := pb
  clear sa sb pa pb
  go_enter Try.func21, Try.ntmps21
  go_wp2
  go_quiet (fail)
  go_wp2
  have hB0 : Below w.heap.size w ((w.alloc (Obj.cells #[.slice aa na ca] 37)).alloc (Obj.cells #[.slice ab nb cb] 37)) := ((Below.refl _ _).alloc (Nat.le_refl _) _).alloc (by simp) _
  generalize (w.alloc (Obj.cells #[.slice aa na ca] 37)).alloc (Obj.cells #[.slice ab nb cb] 37) = w0 at *
  have H0 : Hid (CmpInv w0 na A CA nb B CB (w0.drewN nq) 0 0 false false aa na ca ab nb cb) := ⟨cmp_start _ _ _ _ _ _, by omega, by omega, hA.below hB0, hB.below hB0, hca, hcb, _, rfl⟩
  clear hA hB hca hcb
  go_loopw [5, 6, 7, 8] (fun v5 v6 v7 v8 wr => ∃ (i j : Nat) (below above : Bool) (a0 : Option Addr) (n0 c0 : Nat) (a1 : Option Addr) (n1 c1 : Nat), v5 = .bool below ∧ v6 = .bool above ∧ v7 = .slice a0 n0 c0 ∧ v8 = .slice a1 n1 c1 ∧ CmpInv w0 na A CA nb B CB wr i j below above a0 n0 c0 a1 n1 c1) (fun _ _ v7 v8 _ => lenV v7 + lenV v8)
  case atStart => exact ⟨0, 0, false, false, aa, na, ca, ab, nb, cb, rfl, rfl, rfl, rfl, H0.out⟩
  case round =>
    obtain ⟨i, j, below, above, a0, n0, c0, a1, n1, c1, rfl, rfl, rfl, rfl, hI⟩ := hrel
    clear H0
    have q1 := hI.k0
    have q2 := hI.k1
    have q3 : n0 ≤ na := by have := hI.hi; omega
    have q4 : n1 ≤ nb := by have := hI.hj; omega
    by_cases hx : n0 = 0 ∨ n1 = 0 ∨ (below = true ∧ above = true)
    · have HF : Hid (FinB below n1 (BelowP na A CA nb B CB) ∧ FinB above n0 (BelowP nb B CB na A CA)) := by
        have h1 := hI.hi; have h2 := hI.hj
        have := hI.st.done HPA.out HPB.out (by rcases hx with h | h | h; exact .inl (by omega); exact .inr (.inl (by omega)); exact .inr (.inr h))
        rwa [show j < nb ↔ 0 < n1 from by omega, show i < na ↔ 0 < n0 from by omega] at this
      obtain ⟨q, rfl⟩ := hI.dr
      clear hI
      by_cases z0 : n0 = 0
      · subst z0
        clear hx
        cases below <;> cases above
        all_goals
          go_wp2_with (go_at_call 30; refine (relation_any _ _ _).mono ?_; rintro e w' ⟨rfl, rfl⟩)
          go_ret
          exact ⟨_, _, rfl, by first | exact fin_true HF.out.1 | exact fin_zero HF.out.1 | exact fin_false HF.out.1 | exact fin_false' HF.out.1 | exact fin_pos HF.out.1 (by omega), by first | exact fin_true HF.out.2 | exact fin_zero HF.out.2 | exact fin_false HF.out.2 | exact fin_false' HF.out.2 | exact fin_pos HF.out.2 (by omega), hB0.trans (below_drewN _ _ _)⟩
      · have z0' : (0 : Int) < (n0 : Int) := by omega
        by_cases z1 : n1 = 0
        · subst z1
          clear hx
          cases below <;> cases above
          all_goals
            go_wp2_with (go_at_call 30; refine (relation_any _ _ _).mono ?_; rintro e w' ⟨rfl, rfl⟩)
            go_ret
            exact ⟨_, _, rfl, by first | exact fin_true HF.out.1 | exact fin_zero HF.out.1 | exact fin_false HF.out.1 | exact fin_false' HF.out.1 | exact fin_pos HF.out.1 (by omega), by first | exact fin_true HF.out.2 | exact fin_zero HF.out.2 | exact fin_false HF.out.2 | exact fin_false' HF.out.2 | exact fin_pos HF.out.2 (by omega), hB0.trans (below_drewN _ _ _)⟩
        · have z1' : (0 : Int) < (n1 : Int) := by omega
          obtain ⟨rfl, rfl⟩ : below = true ∧ above = true := by
            rcases hx with h | h | h
            · exact absurd h z0
            · exact absurd h z1
            · exact h
          clear hx
          go_wp2_with (go_at_call 30; refine (relation_any _ _ _).mono ?_; rintro e w' ⟨rfl, rfl⟩)
          go_ret
          exact ⟨_, _, rfl, fin_true HF.out.1, fin_true HF.out.2, hB0.trans (below_drewN _ _ _)⟩
    · have z0 : 0 < n0 := by omega
      have z1 : 0 < n1 := by omega
      have z0' : (0 : Int) < (n0 : Int) := by omega
      have z1' : (0 : Int) < (n1 : Int) := by omega
      obtain ⟨bl0, HBL⟩ : ∃ b, Hid (b = below) := ⟨_, rfl⟩
      obtain ⟨ab0, HAB⟩ : ∃ b, Hid (b = above) := ⟨_, rfl⟩
      have HI : Hid (CmpInv w0 na A CA nb B CB wr i j bl0 ab0 a0 n0 c0 a1 n1 c1) := by rw [HBL.out, HAB.out]; exact hI
      obtain ⟨q, rfl⟩ := hI.dr
      have e0 := hI.e0
      have e1 := hI.e1
      clear hI
      cases below <;> cases above
      case true.true => exact absurd (.inr (.inr ⟨rfl, rfl⟩)) hx
      all_goals
        clear hx
        go_wp2_with fail
        refine (same_any a0 a1 n0 n1 c0 c1 _ _ _ _ (w0.drewN q) (e0.below (below_drewN _ _ _)) (e1.below (below_drewN _ _ _)) (by omega) (by omega) q2).mono ?_
        rintro e w' ⟨rfl, q', hq'⟩
        rw [World.drewN_drewN] at hq'
        subst hq'
        have hl := lcp_spec (min n0 n1) (fun t => A (t + i)) (fun t => B (t + j))
        generalize lcp (min n0 n1) (fun t => A (t + i)) (fun t => B (t + j)) = k at *
        have HL : Hid (k ≤ min n0 n1 ∧ (∀ t, t < k → A (t + i) = B (t + j)) ∧ (k < min n0 n1 → A (k + i) ≠ B (k + j))) := hl
        have l1 : k ≤ n0 := by omega
        have l2 : k ≤ n1 := by omega
        clear hl
        go_wp2
        go_loopw [5, 6, 37] (fun v5 v6 v37 wr => ∃ (t : Nat) (bl ab : Bool), t ≤ k ∧ v5 = .bool bl ∧ v6 = .bool ab ∧ v37 = .int .i64 t ∧ StepB bl bl0 t (fun x => CA (x + i) < CB (x + j)) ∧ StepB ab ab0 t (fun x => CB (x + j) < CA (x + i)) ∧ ∃ q, wr = w0.drewN q) (fun _ _ v37 _ => k - (intOf v37).toNat)
        case atStart => exact ⟨0, _, _, Nat.zero_le _, rfl, rfl, rfl, step_zero HBL.out, step_zero HAB.out, _, rfl⟩
        case round =>
          obtain ⟨t, bl, ab, ht, rfl, rfl, rfl, r1, r2, q3, rfl⟩ := hrel
          have R1 : Hid (StepB bl bl0 t (fun x => CA (x + i) < CB (x + j))) := r1
          have R2 : Hid (StepB ab ab0 t (fun x => CB (x + j) < CA (x + i))) := r2
          clear r1 r2
          by_cases htk : t < k
          · obtain ⟨b0, o0, rfl, hc0⟩ := e0 (by omega)
            obtain ⟨b1, o1, rfl, hc1⟩ := e1 (by omega)
            have g0 := (hc0 t (by omega)).2
            have g1 := (hc1 t (by omega)).2
            clear hc0 hc1
            have t1 : (t : Int) < (n0 : Int) := by omega
            have t2 : (t : Int) < (n1 : Int) := by omega
            have t3 : (t : Int) < (k : Int) := by omega
            cases bl <;> cases ab
            all_goals
              go_wp2
              go_quiet (fail)
              go_wp2
              go_quiet (fail)
              go_wp2
              go_roundw
              case rel => exact ⟨t + 1, _, _, by omega, rfl, rfl, by go_num, by first | exact or_step_true R1.out | exact or_step_false R1.out, by first | exact or_step_true R2.out | exact or_step_false R2.out, _, (by first | rfl | exact World.drewN_drewN _ _ _)⟩
              case measure => simp [intOf]; omega
          · obtain rfl : t = k := by omega
            have HS : Hid (CmpSt na nb A B CA CB (i + t) (j + t) bl ab) := by
              have h1 := HI.out.hi; have h2 := HI.out.hj
              exact HI.out.st.run HSA.out HSB.out t (by omega) (by omega) HL.out.2.1 bl ab R1.out R2.out
            have hi' : i + t + (n0 - t) = na := by have := HI.out.hi; omega
            have hj' : j + t + (n1 - t) = nb := by have := HI.out.hj; omega
            have HJ : Hid (i + t + (n0 - t) = na ∧ j + t + (n1 - t) = nb) := ⟨hi', hj'⟩
            clear hi' hj'
            have d0 : Ents w0 (if c0 = t then a0 else Option.map (fun x => x.add (t * 2)) a0) (n0 - t) (fun x => A (x + (i + t))) (fun x => CA (x + (i + t))) := by
              have := ents_drop e0 t c0 l1 q1
              simp only [show ∀ x, x + t + i = x + (i + t) from fun x => by omega] at this
              exact this
            have d1 : Ents w0 (if c1 = t then a1 else Option.map (fun x => x.add (t * 2)) a1) (n1 - t) (fun x => B (x + (j + t))) (fun x => CB (x + (j + t))) := by
              have := ents_drop e1 t c1 l2 q2
              simp only [show ∀ x, x + t + j = x + (j + t) from fun x => by omega] at this
              exact this
            go_wp2
            go_quiet (fail)
            generalize (if c0 = t then a0 else Option.map (fun x => x.add (t * 2)) a0) = a0' at *
            generalize (if c1 = t then a1 else Option.map (fun x => x.add (t * 2)) a1) = a1' at *
            by_cases hx : n0 - t = 0 ∨ n1 - t = 0
            · have HF : Hid (FinB bl (n1 - t) (BelowP na A CA nb B CB) ∧ FinB ab (n0 - t) (BelowP nb B CB na A CA)) := by
                obtain ⟨h1, h2⟩ := HJ.out
                have := HS.out.done HPA.out HPB.out (by omega)
                rwa [show j + t < nb ↔ 0 < n1 - t from by omega, show i + t < na ↔ 0 < n0 - t from by omega] at this
              clear R1 R2 HI HS HJ HL d0 d1 e0 e1
              by_cases y0 : n0 - t = 0
              · rw [y0] at HF
                have y0' : (((n0 - t : Nat) : Int) == 0) = true := beq_iff_eq.2 (by omega)
                clear hx
                cases bl <;> cases ab
                all_goals
                  go_wp2_with (go_at_call 30; refine (relation_any _ _ _).mono ?_; rintro e w' ⟨rfl, rfl⟩)
                  go_ret
                  exact ⟨_, _, rfl, by first | exact fin_true HF.out.1 | exact fin_zero HF.out.1 | exact fin_false HF.out.1 | exact fin_false' HF.out.1 | exact fin_pos HF.out.1 (by omega), by first | exact fin_true HF.out.2 | exact fin_zero HF.out.2 | exact fin_false HF.out.2 | exact fin_false' HF.out.2 | exact fin_pos HF.out.2 (by omega), hB0.trans (below_drewN _ _ _)⟩
              · have y1 : n1 - t = 0 := by omega
                rw [y1] at HF
                have y0' : (((n0 - t : Nat) : Int) == 0) = false := beq_eq_false_iff_ne.2 (by omega)
                have y1' : (((n1 - t : Nat) : Int) == 0) = true := beq_iff_eq.2 (by omega)
                have y2 : 0 < n0 - t := by omega
                clear hx y0
                cases bl <;> cases ab
                all_goals
                  go_wp2_with (go_at_call 30; refine (relation_any _ _ _).mono ?_; rintro e w' ⟨rfl, rfl⟩)
                  go_ret
                  exact ⟨_, _, rfl, by first | exact fin_true HF.out.1 | exact fin_zero HF.out.1 | exact fin_false HF.out.1 | exact fin_false' HF.out.1 | exact fin_pos HF.out.1 (by omega), by first | exact fin_true HF.out.2 | exact fin_zero HF.out.2 | exact fin_false HF.out.2 | exact fin_false' HF.out.2 | exact fin_pos HF.out.2 (by omega), hB0.trans (below_drewN _ _ _)⟩
            · have y0' : (((n0 - t : Nat) : Int) == 0) = false := beq_eq_false_iff_ne.2 (by omega)
              have y1' : (((n1 - t : Nat) : Int) == 0) = false := beq_eq_false_iff_ne.2 (by omega)
              obtain ⟨b0, o0, rfl, hc0⟩ := d0 (by omega)
              obtain ⟨b1, o1, rfl, hc1⟩ := d1 (by omega)
              have g0 : w0.cell? ⟨b0, o0, none⟩ = some (.string (A (i + t))) := by simpa using (hc0 0 (by omega)).1
              have g1 : w0.cell? ⟨b1, o1, none⟩ = some (.string (B (j + t))) := by simpa using (hc1 0 (by omega)).1
              have f0 : Ents w0 (if c0 - t = 1 then some ⟨b0, o0, none⟩ else some ⟨b0, o0 + 2, none⟩) (n0 - t - 1) (fun x => A (x + (i + t + 1))) (fun x => CA (x + (i + t + 1))) := by
                have := ents_drop d0 1 (c0 - t) (by omega) (by omega)
                simp only [show ∀ x, x + 1 + (i + t) = x + (i + t + 1) from fun x => by omega] at this
                exact this
              have f1 : Ents w0 (if c1 - t = 1 then some ⟨b1, o1, none⟩ else some ⟨b1, o1 + 2, none⟩) (n1 - t - 1) (fun x => B (x + (j + t + 1))) (fun x => CB (x + (j + t + 1))) := by
                have := ents_drop d1 1 (c1 - t) (by omega) (by omega)
                simp only [show ∀ x, x + 1 + (j + t) = x + (j + t + 1) from fun x => by omega] at this
                exact this
              have p0 : (0 : Int) < ((n0 - t : Nat) : Int) := by omega
              have p1 : (0 : Int) < ((n1 - t : Nat) : Int) := by omega
              have p2 : (1 : Int) ≤ ((n0 - t : Nat) : Int) := by omega
              have p3 : (1 : Int) ≤ ((n1 - t : Nat) : Int) := by omega
              clear hc0 hc1 R1 R2 hx
              cases hl : Op.bytesLess (A (i + t)).toList (B (j + t)).toList
              · have HS2 : Hid (CmpSt na nb A B CA CB (i + t) (j + t + 1) true ab) := by
                  obtain ⟨h1, h2⟩ := HJ.out
                  have hne := HL.out.2.2 (by omega)
                  rw [Nat.add_comm t i, Nat.add_comm t j] at hne
                  exact HS.out.right HSA.out HSB.out HPB.out (by omega) (fun _ => ltS_tri hl hne)
                go_wp2
                go_quiet (fail)
                go_wp2
                go_roundw
                case rel => exact ⟨i + t, j + t + 1, true, ab, _, _, _, _, _, _, rfl, rfl, rfl, rfl, HS2.out, HJ.out.1, by have := HJ.out.2; omega, d0, f1, by omega, by omega, _, (by first | rfl | exact World.drewN_drewN _ _ _)⟩
                case measure => first | (simp [lenV]; omega) | (simp only [lenV]; omega)
              · have HS2 : Hid (CmpSt na nb A B CA CB (i + t + 1) (j + t) bl true) := by
                  obtain ⟨h1, h2⟩ := HJ.out
                  exact HS.out.left HSA.out HSB.out HPA.out (by omega) (fun _ => hl)
                go_wp2
                go_quiet (fail)
                go_wp2
                go_roundw
                case rel => exact ⟨i + t + 1, j + t, bl, true, _, _, _, _, _, _, rfl, rfl, rfl, rfl, HS2.out, by have := HJ.out.1; omega, HJ.out.2, f0, d1, by omega, by omega, _, (by first | rfl | exact World.drewN_drewN _ _ _)⟩
                case measure => first | (simp [lenV]; omega) | (simp only [lenV]; omega)
end Go.Proofs.Qxb6605503a
