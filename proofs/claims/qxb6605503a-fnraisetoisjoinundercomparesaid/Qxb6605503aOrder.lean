/- THE PLAIN MATHEMATICS OF HOSTS IN ORDER: no Go in sight. -/
import Derived.Test.Qxb6605503aPlain
import GoSem.Op.String
namespace Go.Proofs.Qxb6605503a

theorem less_irrefl : ∀ x : List UInt8, Op.bytesLess x x = false
  | [] => rfl
  | a :: x => by simp [Op.bytesLess, less_irrefl x]
theorem less_trans : ∀ {x y z : List UInt8}, Op.bytesLess x y = true → Op.bytesLess y z = true → Op.bytesLess x z = true
  | [], [], _, h, _ => by simp [Op.bytesLess] at h
  | [], _ :: _, [], _, h => by simp [Op.bytesLess] at h
  | [], _ :: _, _ :: _, _, _ => by simp [Op.bytesLess]
  | _ :: _, [], _, h, _ => by simp [Op.bytesLess] at h
  | _ :: _, _ :: _, [], _, h => by simp [Op.bytesLess] at h
  | a :: x, b :: y, c :: z, h1, h2 => by
    simp only [Op.bytesLess, Bool.or_eq_true, Bool.and_eq_true, decide_eq_true_eq, beq_iff_eq] at h1 h2 ⊢
    rcases h1 with h1 | ⟨rfl, h1⟩ <;> rcases h2 with h2 | ⟨rfl, h2⟩
    · exact .inl (UInt8.lt_trans h1 h2)
    · exact .inl h1
    · exact .inl h2
    · exact .inr ⟨rfl, less_trans h1 h2⟩
theorem less_tri : ∀ {x y : List UInt8}, Op.bytesLess x y = false → x ≠ y → Op.bytesLess y x = true
  | [], [], _, h => absurd rfl h
  | [], _ :: _, h, _ => by simp [Op.bytesLess] at h
  | _ :: _, [], _, _ => by simp [Op.bytesLess]
  | a :: x, b :: y, h1, h2 => by
    simp only [Op.bytesLess, Bool.or_eq_false_iff, Bool.and_eq_false_iff, decide_eq_false_iff_not, beq_eq_false_iff_ne, Bool.or_eq_true, Bool.and_eq_true, decide_eq_true_eq, beq_iff_eq] at h1 ⊢
    obtain ⟨h3, h4⟩ := h1
    by_cases e : a = b
    · subst e
      refine .inr ⟨rfl, less_tri (h4.resolve_left (fun h => h rfl)) (fun e => h2 (by rw [e]))⟩
    · left
      rw [UInt8.lt_iff_toNat_lt] at h3 ⊢
      have : a.toNat ≠ b.toNat := fun h => e (UInt8.toNat_inj.1 h)
      omega

/-- Go's '<' on two strings. -/
def ltS (x y : ByteArray) : Bool := Op.bytesLess x.toList y.toList
theorem ltS_irrefl (x : ByteArray) : ltS x x = false := less_irrefl _
theorem ltS_trans {x y z : ByteArray} (h1 : ltS x y = true) (h2 : ltS y z = true) : ltS x z = true := less_trans h1 h2
theorem ltS_tri {x y : ByteArray} (h1 : ltS x y = false) (h2 : x ≠ y) : ltS y x = true := less_tri h1 (fun h => h2 (toList_inj h))
theorem ltS_ne {x y : ByteArray} (h : ltS x y = true) : x ≠ y := by
  intro e; subst e; rw [ltS_irrefl] at h; cases h
theorem ltS_asymm {x y : ByteArray} (h : ltS x y = true) : ltS y x = false := by
  cases h' : ltS y x
  · rfl
  · have := ltS_trans h h'; rw [ltS_irrefl] at this; cases this

/-- The n hosts are strictly sorted. -/
def Sorted (n : Nat) (S : Nat → ByteArray) : Prop := ∀ i, i + 1 < n → ltS (S i) (S (i + 1)) = true
theorem Sorted.lt {n S} (h : Sorted n S) : ∀ (d i : Nat), i + d + 1 < n → ltS (S i) (S (i + d + 1)) = true
  | 0, i, hi => h i hi
  | d + 1, i, hi => ltS_trans (h.lt d i (by omega)) (h (i + d + 1) (by omega))
theorem Sorted.lt' {n S} (h : Sorted n S) {i j : Nat} (hij : i < j) (hj : j < n) : ltS (S i) (S j) = true := by
  have := h.lt (j - i - 1) i (by omega)
  rwa [show i + (j - i - 1) + 1 = j from by omega] at this
theorem Sorted.inj {n S} (h : Sorted n S) {i j : Nat} (hi : i < n) (hj : j < n) (e : S i = S j) : i = j := by
  rcases Nat.lt_trichotomy i j with h1 | h1 | h1
  · exact absurd e (ltS_ne (h.lt' h1 hj))
  · exact h1
  · exact absurd e.symm (ltS_ne (h.lt' h1 hi))
theorem Sorted.drop {n S} (h : Sorted n S) (k : Nat) : Sorted (n - k) (fun i => S (i + k)) := by
  intro i hi
  show ltS (S (i + k)) (S (i + 1 + k)) = true
  rw [show i + 1 + k = i + k + 1 from by omega]
  exact h (i + k) (by omega)

/-- The count of host h: its entry's, or 0 where there is none. -/
def look : Nat → (Nat → ByteArray) → (Nat → Int) → ByteArray → Int
  | 0, _, _, _ => 0
  | n + 1, S, C, h => if S 0 = h then C 0 else look n (fun i => S (i + 1)) (fun i => C (i + 1)) h
theorem look_miss : ∀ (n : Nat) (S : Nat → ByteArray) (C : Nat → Int) (h : ByteArray), (∀ i, i < n → S i ≠ h) → look n S C h = 0
  | 0, _, _, _, _ => rfl
  | n + 1, S, C, h, hm => by
    rw [look, if_neg (hm 0 (by omega))]
    exact look_miss n _ _ h (fun i hi => hm (i + 1) (by omega))
theorem look_first : ∀ (n : Nat) (S : Nat → ByteArray) (C : Nat → Int) (i : Nat), i < n → (∀ j, j < i → S j ≠ S i) → look n S C (S i) = C i
  | 0, _, _, _, hi, _ => by omega
  | n + 1, S, C, 0, _, _ => by rw [look, if_pos rfl]
  | n + 1, S, C, i + 1, hi, hj => by
    rw [look, if_neg (hj 0 (by omega))]
    exact look_first n (fun i => S (i + 1)) (fun i => C (i + 1)) i (by omega) (fun j h => hj (j + 1) (by omega))
theorem look_hit {n S} (C : Nat → Int) (hs : Sorted n S) {i : Nat} (hi : i < n) : look n S C (S i) = C i :=
  look_first n S C i hi (fun _ hj => ltS_ne (hs.lt' hj hi))
theorem look_cases (n : Nat) (S : Nat → ByteArray) (C : Nat → Int) (h : ByteArray) : (∃ i, i < n ∧ S i = h ∧ look n S C h = C i) ∨ ((∀ i, i < n → S i ≠ h) ∧ look n S C h = 0) := by
  induction n generalizing S C with
  | zero => exact .inr ⟨fun i hi => by omega, rfl⟩
  | succ n ih =>
    by_cases e : S 0 = h
    · exact .inl ⟨0, by omega, e, by rw [look, if_pos e]⟩
    · rcases ih (fun i => S (i + 1)) (fun i => C (i + 1)) with ⟨i, hi, h1, h2⟩ | ⟨h1, h2⟩
      · exact .inl ⟨i + 1, by omega, h1, by rw [look, if_neg e, h2]⟩
      · refine .inr ⟨fun i hi => ?_, by rw [look, if_neg e, h2]⟩
        cases i with
        | zero => exact e
        | succ i => exact h1 i (by omega)
theorem look_nonneg {n S C h} (hc : ∀ i, i < n → 0 ≤ C i) : 0 ≤ look n S C h := by
  rcases look_cases n S C h with ⟨i, hi, _, e⟩ | ⟨_, e⟩ <;> rw [e]
  · exact hc i hi
  · exact Int.le_refl _

/-- The first clock has an entry below the second's. -/
def BelowP (n1 : Nat) (S1 : Nat → ByteArray) (C1 : Nat → Int) (n2 : Nat) (S2 : Nat → ByteArray) (C2 : Nat → Int) : Prop := ∃ h, look n1 S1 C1 h < look n2 S2 C2 h
/-- .. found by looking up every host of each in the other. -/
theorem belowP_iff {n1 S1 C1 n2 S2 C2} (s1 : Sorted n1 S1) (s2 : Sorted n2 S2) (p1 : ∀ i, i < n1 → 0 ≤ C1 i) :
    BelowP n1 S1 C1 n2 S2 C2 ↔ (∃ i, i < n1 ∧ C1 i < look n2 S2 C2 (S1 i)) ∨ (∃ i, i < n2 ∧ look n1 S1 C1 (S2 i) < C2 i) := by
  constructor
  · rintro ⟨h, hlt⟩
    rcases look_cases n2 S2 C2 h with ⟨i, hi, rfl, e⟩ | ⟨_, e⟩
    · exact .inr ⟨i, hi, by rw [← e]; exact hlt⟩
    · have := look_nonneg (S := S1) (h := h) p1
      omega
  · rintro (⟨i, hi, hlt⟩ | ⟨i, hi, hlt⟩)
    · exact ⟨S1 i, by rw [look_hit C1 s1 hi]; exact hlt⟩
    · exact ⟨S2 i, by rw [look_hit C2 s2 hi]; exact hlt⟩

/-- Go's Relation out of the two answers. -/
def relCode (b a : Bool) : Int := if b && a then 3 else if b then 1 else if a then 2 else 4
end Go.Proofs.Qxb6605503a
