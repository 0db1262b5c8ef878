/- THE PLAIN MATHEMATICS OF THE RADIX SORT: no Go in sight. -/
namespace Go.Proofs.Qxb6605551a

/-- The digit of row r at shift s. -/
def dig (Z : Nat → Int) (s r : Nat) : Nat := (Z r / 2 ^ s % 2048).toNat
theorem dig_lt (Z : Nat → Int) (s r : Nat) : dig Z s r < 2048 := by unfold dig; omega
/-- Row r comes before row q by their offsets' lowest s bits, then by row. -/
def lt (Z : Nat → Int) (s r q : Nat) : Prop := Z r % 2 ^ s < Z q % 2 ^ s ∨ (Z r % 2 ^ s = Z q % 2 ^ s ∧ r < q)

/-- The rows of digit d. -/
def bucket (Z : Nat → Int) (s : Nat) (L : List Nat) (d : Nat) : List Nat := L.filter (fun r => dig Z s r == d)
/-- The rows of the digits below m, in order. -/
def below (Z : Nat → Int) (s : Nat) (L : List Nat) : Nat → List Nat
  | 0 => []
  | m + 1 => below Z s L m ++ bucket Z s L m
/-- One pass. -/
def pass (Z : Nat → Int) (s : Nat) (L : List Nat) : List Nat := below Z s L 2048

theorem mem_bucket {Z s L d r} : r ∈ bucket Z s L d ↔ r ∈ L ∧ dig Z s r = d := by simp [bucket]
theorem mem_below {Z s L} : ∀ {m r}, r ∈ below Z s L m ↔ r ∈ L ∧ dig Z s r < m
  | 0, r => by simp [below]
  | m + 1, r => by
    rw [below, List.mem_append, mem_below, mem_bucket]
    constructor
    · rintro (⟨h1, h2⟩ | ⟨h1, h2⟩) <;> exact ⟨h1, by omega⟩
    · rintro ⟨h1, h2⟩
      by_cases e : dig Z s r = m
      · exact .inr ⟨h1, e⟩
      · exact .inl ⟨h1, by omega⟩

theorem below_perm {Z : Nat → Int} {s : Nat} {L : List Nat} : ∀ m, (below Z s L m).Perm (L.filter (fun r => decide (dig Z s r < m)))
  | 0 => by simp [below]
  | m + 1 => by
    have ih := below_perm (Z := Z) (s := s) (L := L) m
    rw [below, bucket]
    refine (ih.append_right _).trans ?_
    have h := List.filter_append_perm (fun r => decide (dig Z s r < m)) (L.filter (fun r => decide (dig Z s r < m + 1)))
    rw [List.filter_filter, List.filter_filter] at h
    have e1 : (L.filter (fun r => decide (dig Z s r < m) && decide (dig Z s r < m + 1))) = L.filter (fun r => decide (dig Z s r < m)) := by
      apply List.filter_congr
      intro r _
      rw [Bool.eq_iff_iff]; simp; omega
    have e2 : (L.filter (fun r => (!decide (dig Z s r < m)) && decide (dig Z s r < m + 1))) = L.filter (fun r => dig Z s r == m) := by
      apply List.filter_congr
      intro r _
      rw [Bool.eq_iff_iff]; simp; omega
    rw [e1, e2] at h
    exact h
theorem pass_perm (Z : Nat → Int) (s : Nat) (L : List Nat) : (pass Z s L).Perm L := by
  refine (below_perm 2048).trans ?_
  rw [List.filter_eq_self.2 (fun r _ => by simpa using dig_lt Z s r)]

theorem mod_split' (P b n : Nat) : (n : Int) % ((P : Int) * (b : Int)) = (n : Int) % (P : Int) + (P : Int) * ((n : Int) / (P : Int) % (b : Int)) := by
  have h2 : ((n % (P * b) : Nat) : Int) = ((n % P + P * (n / P % b) : Nat) : Int) := by rw [Nat.mod_mul]
  simp only [Int.natCast_add, Int.natCast_mul, Int.natCast_emod, Int.natCast_ediv] at h2
  exact h2
theorem mod_split (s : Nat) (a : Int) (h : 0 ≤ a) : a % (2 ^ s * 2048) = a % 2 ^ s + 2 ^ s * (a / 2 ^ s % 2048) := by
  obtain ⟨n, rfl⟩ := Int.eq_ofNat_of_zero_le h
  have h2 := mod_split' (2 ^ s) 2048 n
  rw [Int.natCast_pow] at h2
  exact h2
theorem lt_step {Z : Nat → Int} (hz : ∀ r, 0 ≤ Z r) {s r q : Nat} (h : dig Z s r < dig Z s q) : lt Z (s + 11) r q := by
  left
  have hp : (0 : Int) < 2 ^ s := Int.pow_pos (by decide)
  have e : (2 : Int) ^ (s + 11) = 2 ^ s * 2048 := by rw [Int.pow_add]; rfl
  rw [e, mod_split s _ (hz r), mod_split s _ (hz q)]
  have hr := Int.emod_nonneg (Z r) (Int.ne_of_gt hp)
  have hr2 := Int.emod_lt_of_pos (Z r) hp
  have hq := Int.emod_nonneg (Z q) (Int.ne_of_gt hp)
  have hd : Z r / 2 ^ s % 2048 + 1 ≤ Z q / 2 ^ s % 2048 := by
    have h1 : 0 ≤ Z r / 2 ^ s % 2048 := by omega
    unfold dig at h
    omega
  have := Int.mul_le_mul_of_nonneg_left hd (Int.le_of_lt hp)
  rw [Int.mul_add, Int.mul_one] at this
  omega
theorem lt_same {Z : Nat → Int} (hz : ∀ r, 0 ≤ Z r) {s r q : Nat} (h : dig Z s r = dig Z s q) (hl : lt Z s r q) : lt Z (s + 11) r q := by
  have e : (2 : Int) ^ (s + 11) = 2 ^ s * 2048 := by rw [Int.pow_add]; rfl
  have hd : Z r / 2 ^ s % 2048 = Z q / 2 ^ s % 2048 := by
    unfold dig at h
    have h1 : 0 ≤ Z r / 2 ^ s % 2048 := by omega
    have h2 : 0 ≤ Z q / 2 ^ s % 2048 := by omega
    omega
  unfold lt
  rw [e, mod_split s _ (hz r), mod_split s _ (hz q), hd]
  rcases hl with hl | ⟨h1, h2⟩
  · left; omega
  · right; exact ⟨by omega, h2⟩

theorem below_sorted {Z : Nat → Int} (hz : ∀ r, 0 ≤ Z r) {s : Nat} {L : List Nat} (h : L.Pairwise (lt Z s)) : ∀ m, (below Z s L m).Pairwise (lt Z (s + 11))
  | 0 => List.Pairwise.nil
  | m + 1 => by
    rw [below, List.pairwise_append]
    refine ⟨below_sorted hz h m, ?_, fun r hr q hq => ?_⟩
    · refine List.Pairwise.imp_of_mem ?_ (h.filter _)
      intro r q hr hq hl
      have h1 := (mem_bucket.1 hr).2
      have h2 := (mem_bucket.1 hq).2
      exact lt_same hz (h1.trans h2.symm) hl
    · have h1 := (mem_below.1 hr).2
      have h2 := (mem_bucket.1 hq).2
      exact lt_step hz (by omega)
theorem pass_sorted {Z : Nat → Int} (hz : ∀ r, 0 ≤ Z r) {s : Nat} {L : List Nat} (h : L.Pairwise (lt Z s)) : (pass Z s L).Pairwise (lt Z (s + 11)) := below_sorted hz h 2048

theorem range_sorted (Z : Nat → Int) (n : Nat) : (List.range n).Pairwise (lt Z 0) := by
  refine List.Pairwise.imp ?_ List.pairwise_lt_range
  intro r q h
  right
  refine ⟨?_, h⟩
  rw [Int.pow_zero, Int.emod_one, Int.emod_one]

/-- Where the rows of digit d begin. -/
def start (Z : Nat → Int) (s : Nat) (L : List Nat) (d : Nat) : Nat := (below Z s L d).length
theorem start_succ (Z : Nat → Int) (s : Nat) (L : List Nat) (d : Nat) : start Z s L (d + 1) = start Z s L d + (bucket Z s L d).length := by simp [start, below]
theorem start_mono (Z : Nat → Int) (s : Nat) (L : List Nat) {d e : Nat} (h : d ≤ e) : start Z s L d ≤ start Z s L e := by
  induction e with
  | zero => obtain rfl : d = 0 := by omega
            exact Nat.le_refl _
  | succ e ih =>
    by_cases g : d = e + 1
    · subst g; exact Nat.le_refl _
    · have := ih (by omega)
      rw [start_succ]; omega
theorem start_end (Z : Nat → Int) (s : Nat) (L : List Nat) : start Z s L 2048 = L.length := (pass_perm Z s L).length_eq
/-- The counts do not hang on the order. -/
theorem start_of_perm {Z : Nat → Int} {s : Nat} {L L' : List Nat} (h : L.Perm L') : ∀ d, start Z s L d = start Z s L' d
  | 0 => rfl
  | d + 1 => by rw [start_succ, start_succ, start_of_perm h d]; exact congrArg _ (h.filter _).length_eq

/-! ### What the distribution has laid when k rows are behind it -/
/-- How many of the first k rows have digit d. -/
def cntD (Z : Nat → Int) (s : Nat) (L : List Nat) (k d : Nat) : Nat := (bucket Z s (L.take k) d).length
def Fill (Z : Nat → Int) (s : Nat) (L : List Nat) (k : Nat) (N : Nat → Nat) : Prop :=
  ∀ d, ∀ j, j < cntD Z s L k d → N (start Z s L d + j) = (bucket Z s (L.take k) d).getD j 0
theorem fill_start (Z s L N) : Fill Z s L 0 N := fun d j hj => by simp [cntD, bucket] at hj
theorem bucket_succ {Z : Nat → Int} {s : Nat} {L : List Nat} {k : Nat} (hk : k < L.length) (d : Nat) : bucket Z s (L.take (k + 1)) d = bucket Z s (L.take k) d ++ if dig Z s L[k] = d then [L[k]] else [] := by
  rw [List.take_succ_eq_append_getElem hk, bucket, List.filter_append, bucket]
  congr 1
  by_cases h : dig Z s L[k] = d
  · simp [h]
  · simp [h]
theorem cnt_hit {Z : Nat → Int} {s : Nat} {L : List Nat} {k : Nat} (hk : k < L.length) : cntD Z s L (k + 1) (dig Z s L[k]) = cntD Z s L k (dig Z s L[k]) + 1 := by
  simp [cntD, bucket_succ hk]
theorem cnt_miss {Z : Nat → Int} {s : Nat} {L : List Nat} {k d : Nat} (hk : k < L.length) (h : dig Z s L[k] ≠ d) : cntD Z s L (k + 1) d = cntD Z s L k d := by
  simp [cntD, bucket_succ hk, h]
theorem cnt_le_bucket (Z : Nat → Int) (s : Nat) (L : List Nat) (k d : Nat) : cntD Z s L k d ≤ (bucket Z s L d).length :=
  ((List.take_sublist k L).filter _).length_le
/-- The place of row number k. -/
def place (Z : Nat → Int) (s : Nat) (L : List Nat) (k d : Nat) : Nat := start Z s L d + cntD Z s L k d
theorem place_lt_next {Z : Nat → Int} {s : Nat} {L : List Nat} {k : Nat} (hk : k < L.length) : place Z s L k (dig Z s L[k]) < start Z s L (dig Z s L[k] + 1) := by
  have h1 := cnt_hit (Z := Z) (s := s) hk
  have h2 := cnt_le_bucket Z s L (k + 1) (dig Z s L[k])
  rw [start_succ]; unfold place; omega
theorem place_lt {Z : Nat → Int} {s : Nat} {L : List Nat} {k : Nat} (hk : k < L.length) : place Z s L k (dig Z s L[k]) < L.length := by
  have h1 := place_lt_next (Z := Z) (s := s) hk
  have h2 := start_mono Z s L (show dig Z s L[k] + 1 ≤ 2048 from dig_lt Z s L[k])
  rw [start_end] at h2; omega
theorem Fill.step {Z : Nat → Int} {s : Nat} {L : List Nat} {k : Nat} {N : Nat → Nat} (h : Fill Z s L k N) (hk : k < L.length) : Fill Z s L (k + 1) (fun p => if p = place Z s L k (dig Z s L[k]) then L[k] else N p) := by
  intro d j hj
  have hp := place_lt_next (Z := Z) (s := s) hk
  by_cases e : dig Z s L[k] = d
  · subst e
    rw [cnt_hit hk] at hj
    rw [bucket_succ hk, if_pos rfl]
    by_cases e2 : j = cntD Z s L k (dig Z s L[k])
    · subst e2
      show (if _ then _ else _) = _
      rw [if_pos (show start Z s L (dig Z s L[k]) + cntD Z s L k (dig Z s L[k]) = place Z s L k (dig Z s L[k]) from rfl), List.getD_eq_getElem?_getD, cntD, List.getElem?_append_right (Nat.le_refl _)]
      simp
    · show (if _ then _ else _) = _
      rw [if_neg (by unfold place; omega), h _ j (by omega), List.getD_eq_getElem?_getD, List.getD_eq_getElem?_getD, List.getElem?_append_left (by unfold cntD at hj e2; omega)]
  · rw [cnt_miss hk e] at hj
    rw [bucket_succ hk, if_neg e, List.append_nil]
    have hb := cnt_le_bucket Z s L k d
    have hs := start_succ Z s L d
    show (if _ then _ else _) = _
    rw [if_neg, h d j hj]
    intro g
    unfold place at hp g
    rcases Nat.lt_or_gt_of_ne e with g1 | g1
    · have := start_mono Z s L (show dig Z s L[k] + 1 ≤ d from g1); omega
    · have := start_mono Z s L (show d + 1 ≤ dig Z s L[k] from g1); omega
theorem Fill.done {Z : Nat → Int} {s : Nat} {L : List Nat} {N : Nat → Nat} (h : Fill Z s L L.length N) : ∀ m p, p < start Z s L m → N p = (below Z s L m).getD p 0
  | 0, p, hp => by simp [start, below] at hp
  | m + 1, p, hp => by
    by_cases g : p < start Z s L m
    · rw [h.done m p g, below, List.getD_eq_getElem?_getD, List.getD_eq_getElem?_getD, List.getElem?_append_left g]
    · rw [start_succ] at hp
      have h1 := h m (p - start Z s L m) (by rw [cntD, List.take_length]; omega)
      rw [show start Z s L m + (p - start Z s L m) = p from by omega, List.take_length] at h1
      rw [h1, below, List.getD_eq_getElem?_getD, List.getD_eq_getElem?_getD, List.getElem?_append_right (Nat.le_of_not_lt g)]
      rfl
theorem fill_pass {Z : Nat → Int} {s : Nat} {L : List Nat} {N : Nat → Nat} (h : Fill Z s L L.length N) (p : Nat) (hp : p < L.length) : N p = (pass Z s L).getD p 0 :=
  h.done 2048 p (by rw [start_end]; exact hp)
end Go.Proofs.Qxb6605551a
