/- THE PLAIN MATHEMATICS OF Compare: no Go in sight. -/
import Derived.Test.Qxb6605503aOrder
namespace Go.Proofs.Qxb6605503a

section
variable {n1 n2 : Nat} {A B : Nat → ByteArray} {CA CB : Nat → Int}

theorem look_succ (n : Nat) (S : Nat → ByteArray) (C : Nat → Int) (h : ByteArray) : look (n + 1) S C h = if S 0 = h then C 0 else look n (fun i => S (i + 1)) (fun i => C (i + 1)) h := rfl
theorem look_tail_head (s : Sorted (n1 + 1) A) : look n1 (fun i => A (i + 1)) (fun i => CA (i + 1)) (A 0) = 0 :=
  look_miss _ _ _ _ (fun i hi e => by have := s.inj (i := i + 1) (j := 0) (by omega) (by omega) e; omega)
theorem Sorted.tail (s : Sorted (n1 + 1) A) : Sorted n1 (fun i => A (i + 1)) := s.drop 1

theorem below_head (s1 : Sorted (n1 + 1) A) (s2 : Sorted (n2 + 1) B) (e : A 0 = B 0) :
    BelowP (n1 + 1) A CA (n2 + 1) B CB ↔ CA 0 < CB 0 ∨ BelowP n1 (fun i => A (i + 1)) (fun i => CA (i + 1)) n2 (fun i => B (i + 1)) (fun i => CB (i + 1)) := by
  constructor
  · rintro ⟨h, hlt⟩
    rw [look_succ, look_succ, ← e] at hlt
    by_cases g : A 0 = h
    · rw [if_pos g, if_pos g] at hlt; exact .inl hlt
    · rw [if_neg g, if_neg g] at hlt; exact .inr ⟨h, hlt⟩
  · rintro (hlt | ⟨h, hlt⟩)
    · refine ⟨A 0, ?_⟩
      rw [look_succ, look_succ, ← e, if_pos rfl, if_pos rfl]; exact hlt
    · refine ⟨h, ?_⟩
      rw [look_succ, look_succ, ← e]
      by_cases g : A 0 = h
      · subst g
        rw [look_tail_head s1] at hlt
        rw [e, look_tail_head s2] at hlt
        omega
      · rw [if_neg g, if_neg g]; exact hlt

theorem below_skip (s1 : Sorted (n1 + 1) A) (s2 : Sorted n2 B) (hlt : 0 < n2 → ltS (A 0) (B 0) = true) (hc : 0 ≤ CA 0) :
    BelowP (n1 + 1) A CA n2 B CB ↔ BelowP n1 (fun i => A (i + 1)) (fun i => CA (i + 1)) n2 B CB := by
  have hm : look n2 B CB (A 0) = 0 := look_miss _ _ _ _ (fun i hi e => by
    have h0 := hlt (by omega)
    by_cases g : i = 0
    · subst g; exact ltS_ne h0 e.symm
    · exact ltS_ne (ltS_trans h0 (s2.lt' (show 0 < i by omega) hi)) e.symm)
  constructor
  · rintro ⟨h, hl⟩
    rw [look_succ] at hl
    by_cases g : A 0 = h
    · subst g
      rw [if_pos rfl, hm] at hl; omega
    · rw [if_neg g] at hl; exact ⟨h, hl⟩
  · rintro ⟨h, hl⟩
    refine ⟨h, ?_⟩
    rw [look_succ]
    by_cases g : A 0 = h
    · subst g
      rw [look_tail_head s1, hm] at hl; omega
    · rw [if_neg g]; exact hl

theorem above_skip (s2 : Sorted n2 B) (hlt : 0 < n2 → ltS (A 0) (B 0) = true) (hc : 0 < CA 0) : BelowP n2 B CB (n1 + 1) A CA := by
  refine ⟨A 0, ?_⟩
  rw [look_succ, if_pos rfl, look_miss]
  · exact hc
  · intro i hi e
    have h0 := hlt (by omega)
    by_cases g : i = 0
    · subst g; exact ltS_ne h0 e.symm
    · exact ltS_ne (ltS_trans h0 (s2.lt' (show 0 < i by omega) hi)) e.symm

theorem below_empty (hc : ∀ i, i < n2 → 0 < CB i) : BelowP 0 A CA n2 B CB ↔ 0 < n2 := by
  constructor
  · rintro ⟨h, hl⟩
    cases n2 with
    | zero => exact absurd hl (by simp [look])
    | succ n => omega
  · intro h
    cases n2 with
    | zero => omega
    | succ n => exact ⟨B 0, by rw [look_succ, if_pos rfl]; exact hc 0 (by omega)⟩
theorem not_below_empty (hc : ∀ i, i < n2 → 0 < CB i) : ¬ BelowP n2 B CB 0 A CA := by
  rintro ⟨h, hl⟩
  have := look_nonneg (S := B) (h := h) (C := CB) (n := n2) (fun i hi => by have := hc i hi; omega)
  simp [look] at hl
  omega
end

/-- k hosts the same at the front. -/
theorem below_run : ∀ (k n1 n2 : Nat) (A B : Nat → ByteArray) (CA CB : Nat → Int), k ≤ n1 → k ≤ n2 → Sorted n1 A → Sorted n2 B → (∀ t, t < k → A t = B t) →
    (BelowP n1 A CA n2 B CB ↔ (∃ t, t < k ∧ CA t < CB t) ∨ BelowP (n1 - k) (fun i => A (i + k)) (fun i => CA (i + k)) (n2 - k) (fun i => B (i + k)) (fun i => CB (i + k)))
  | 0, n1, n2, A, B, CA, CB, _, _, _, _, _ => by
    constructor
    · exact fun h => .inr h
    · rintro (⟨t, ht, _⟩ | h)
      · omega
      · exact h
  | k + 1, n1 + 1, n2 + 1, A, B, CA, CB, h1, h2, s1, s2, e => by
    rw [below_head s1 s2 (e 0 (by omega)), below_run k n1 n2 _ _ _ _ (by omega) (by omega) s1.tail s2.tail (fun t ht => e (t + 1) (by omega))]
    have ea : n1 + 1 - (k + 1) = n1 - k := by omega
    have eb : n2 + 1 - (k + 1) = n2 - k := by omega
    rw [ea, eb]
    simp only [show ∀ i, i + k + 1 = i + (k + 1) from fun i => by omega]
    constructor
    · rintro (h | ⟨t, ht, h⟩ | h)
      · exact .inl ⟨0, by omega, h⟩
      · exact .inl ⟨t + 1, by omega, h⟩
      · exact .inr h
    · rintro (⟨t, ht, h⟩ | h)
      · cases t with
        | zero => exact .inl h
        | succ t => exact .inr (.inl ⟨t, by omega, h⟩)
      · exact .inr (.inr h)

/-- Where Compare stands: i entries of a and j of b are behind it. -/
structure CmpSt (na nb : Nat) (A B : Nat → ByteArray) (CA CB : Nat → Int) (i j : Nat) (below above : Bool) : Prop where
  hi : i ≤ na
  hj : j ≤ nb
  b : BelowP na A CA nb B CB ↔ below = true ∨ BelowP (na - i) (fun t => A (t + i)) (fun t => CA (t + i)) (nb - j) (fun t => B (t + j)) (fun t => CB (t + j))
  a : BelowP nb B CB na A CA ↔ above = true ∨ BelowP (nb - j) (fun t => B (t + j)) (fun t => CB (t + j)) (na - i) (fun t => A (t + i)) (fun t => CA (t + i))

section
variable {na nb : Nat} {A B : Nat → ByteArray} {CA CB : Nat → Int} {i j : Nat} {below above : Bool}

theorem cmp_start (na nb : Nat) (A B : Nat → ByteArray) (CA CB : Nat → Int) : CmpSt na nb A B CA CB 0 0 false false :=
  ⟨Nat.zero_le _, Nat.zero_le _, by simp, by simp⟩

theorem CmpSt.run (h : CmpSt na nb A B CA CB i j below above) (sa : Sorted na A) (sb : Sorted nb B) (k : Nat) (h1 : k ≤ na - i) (h2 : k ≤ nb - j) (e : ∀ t, t < k → A (t + i) = B (t + j))
    (below' above' : Bool) (hb : below' = true ↔ below = true ∨ ∃ t, t < k ∧ CA (t + i) < CB (t + j)) (ha : above' = true ↔ above = true ∨ ∃ t, t < k ∧ CB (t + j) < CA (t + i)) :
    CmpSt na nb A B CA CB (i + k) (j + k) below' above' := by
  have h3 := h.hi; have h4 := h.hj
  refine ⟨by omega, by omega, ?_, ?_⟩
  · rw [h.b, hb, below_run k (na - i) (nb - j) _ _ _ _ h1 h2 (sa.drop i) (sb.drop j) e, show na - i - k = na - (i + k) from by omega, show nb - j - k = nb - (j + k) from by omega]
    simp only [show ∀ t, t + k + i = t + (i + k) from fun t => by omega, show ∀ t, t + k + j = t + (j + k) from fun t => by omega]
    exact or_assoc.symm
  · rw [h.a, ha, below_run k (nb - j) (na - i) _ _ _ _ h2 h1 (sb.drop j) (sa.drop i) (fun t ht => (e t ht).symm), show na - i - k = na - (i + k) from by omega, show nb - j - k = nb - (j + k) from by omega]
    simp only [show ∀ t, t + k + i = t + (i + k) from fun t => by omega, show ∀ t, t + k + j = t + (j + k) from fun t => by omega]
    exact or_assoc.symm

theorem CmpSt.left (h : CmpSt na nb A B CA CB i j below above) (sa : Sorted na A) (sb : Sorted nb B) (pa : ∀ t, t < na → 0 < CA t) (hi : i < na) (hl : j < nb → ltS (A i) (B j) = true) : CmpSt na nb A B CA CB (i + 1) j below true := by
  obtain ⟨n, hn⟩ : ∃ n, na - i = n + 1 := ⟨na - i - 1, by omega⟩
  have s1 := sa.drop i
  rw [hn] at s1
  have hp := pa i hi
  refine ⟨hi, h.hj, ?_, ?_⟩
  · have h1 := h.b
    rw [hn] at h1
    rw [h1, below_skip s1 (sb.drop j) (fun g => by simpa using hl (by omega)) (by simpa using Int.le_of_lt hp), show na - (i + 1) = n from by omega]
    simp only [show ∀ t, t + 1 + i = t + (i + 1) from fun t => by omega]
  · have h1 := h.a
    rw [hn] at h1
    rw [h1]
    exact ⟨fun _ => .inl rfl, fun _ => .inr (above_skip (sb.drop j) (fun g => by simpa using hl (by omega)) (by simpa using hp))⟩

theorem CmpSt.right (h : CmpSt na nb A B CA CB i j below above) (sa : Sorted na A) (sb : Sorted nb B) (pb : ∀ t, t < nb → 0 < CB t) (hj : j < nb) (hl : i < na → ltS (B j) (A i) = true) : CmpSt na nb A B CA CB i (j + 1) true above := by
  have h' : CmpSt nb na B A CB CA j i above below := ⟨h.hj, h.hi, h.a, h.b⟩
  have := h'.left sb sa pb hj hl
  exact ⟨this.hj, this.hi, this.a, this.b⟩

theorem CmpSt.done (h : CmpSt na nb A B CA CB i j below above) (pa : ∀ t, t < na → 0 < CA t) (pb : ∀ t, t < nb → 0 < CB t) (hx : i = na ∨ j = nb ∨ (below = true ∧ above = true)) :
    ((below = true ∨ j < nb) ↔ BelowP na A CA nb B CB) ∧ ((above = true ∨ i < na) ↔ BelowP nb B CB na A CA) := by
  have h1 := h.hi; have h2 := h.hj
  rcases hx with e | e | ⟨e1, e2⟩
  · rw [h.b, h.a, show na - i = 0 from by omega]
    rw [below_empty (fun t ht => pb (t + j) (by omega))]
    constructor
    · constructor
      · rintro (g | g); exact .inl g; exact .inr (by omega)
      · rintro (g | g); exact .inl g; exact .inr (by omega)
    · constructor
      · rintro (g | g); exact .inl g; omega
      · rintro (g | g)
        · exact .inl g
        · exact absurd g (not_below_empty (fun t ht => pb (t + j) (by omega)))
  · rw [h.b, h.a, show nb - j = 0 from by omega]
    rw [below_empty (fun t ht => pa (t + i) (by omega))]
    constructor
    · constructor
      · rintro (g | g); exact .inl g; omega
      · rintro (g | g)
        · exact .inl g
        · exact absurd g (not_below_empty (fun t ht => pa (t + i) (by omega)))
    · constructor
      · rintro (g | g); exact .inl g; exact .inr (by omega)
      · rintro (g | g); exact .inl g; exact .inr (by omega)
  · rw [h.b, h.a]
    exact ⟨⟨fun _ => .inl e1, fun _ => .inl e1⟩, ⟨fun _ => .inl e2, fun _ => .inl e2⟩⟩
end
end Go.Proofs.Qxb6605503a
