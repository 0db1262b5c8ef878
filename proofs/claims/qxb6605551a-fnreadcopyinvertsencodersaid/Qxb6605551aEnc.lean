/- THE PLAIN MATHEMATICS OF THE ENCODER: no Go in sight. -/
import Derived.Test.Qxb6605551aPlain
namespace Go.Proofs.Qxb6605551a

/-- The flags of the bytes below i. -/
def fl (B : Nat → Int) : Nat → Int
  | 0 => 128
  | i + 1 => fl B i + if B i = 0 then 0 else 2 ^ i
/-- The instruction's bytes below i, its head still 0. -/
def ls (B : Nat → Int) : Nat → List Int
  | 0 => [0]
  | i + 1 => if B i = 0 then ls B i else ls B i ++ [B i]

theorem ls_set {B : Nat → Int} {i : Nat} (h : B i ≠ 0) : ls B (i + 1) = ls B i ++ [B i] := by rw [ls, if_neg h]
theorem ls_clear {B : Nat → Int} {i : Nat} (h : B i = 0) : ls B (i + 1) = ls B i := by rw [ls, if_pos h]
theorem fl_set {B : Nat → Int} {i : Nat} (h : B i ≠ 0) : fl B (i + 1) = fl B i + 2 ^ i := by rw [fl, if_neg h]
theorem fl_clear {B : Nat → Int} {i : Nat} (h : B i = 0) : fl B (i + 1) = fl B i := by rw [fl, if_pos h]; omega
theorem ls_len (B : Nat → Int) : ∀ i, 1 ≤ (ls B i).length ∧ (ls B i).length ≤ 1 + i
  | 0 => by simp [ls]
  | i + 1 => by
    have := ls_len B i
    by_cases h : B i = 0
    · rw [ls_clear h]; omega
    · rw [ls_set h, List.length_append, List.length_singleton]; omega
theorem ls_head (B : Nat → Int) : ∀ i, ∃ r, ls B i = 0 :: r
  | 0 => ⟨[], rfl⟩
  | i + 1 => by
    obtain ⟨r, hr⟩ := ls_head B i
    by_cases h : B i = 0
    · rw [ls_clear h]; exact ⟨r, hr⟩
    · rw [ls_set h, hr]; exact ⟨r ++ [B i], rfl⟩

/-- One where the byte is there. -/
def one (b : Int) : Int := if b = 0 then 0 else 1
theorem one_01 (b : Int) : one b = 0 ∨ one b = 1 := by unfold one; split; exact .inl rfl; exact .inr rfl
theorem one_iff (b : Int) : one b = 1 ↔ b ≠ 0 := by unfold one; split <;> simp_all
theorem fl_sum (B : Nat → Int) : fl B 7 = 128 + one (B 0) + 2 * one (B 1) + 4 * one (B 2) + 8 * one (B 3) + 16 * one (B 4) + 32 * one (B 5) + 64 * one (B 6) := by
  simp only [fl, one]
  split <;> split <;> split <;> split <;> split <;> split <;> split <;> rfl
theorem fl_bd (B : Nat → Int) : ∀ i, i ≤ 7 → 128 ≤ fl B i ∧ fl B i < 128 + 2 ^ i
  | 0, _ => by simp [fl]
  | i + 1, h => by
    have := fl_bd B i (by omega)
    rw [fl]
    have hp : (2 : Int) ^ (i + 1) = 2 ^ i + 2 ^ i := by rw [Int.pow_succ]; omega
    rw [hp]
    split <;> omega
theorem or_flag : ∀ (x : Fin 128) (i : Fin 7), (x.val : Nat) < 2 ^ i.val → bits BinOp.or .u8 (128 + (x.val : Int)) ((2 ^ i.val : Nat) : Int) = 128 + (x.val : Int) + ((2 ^ i.val : Nat) : Int) := by decide +kernel
theorem or_fl (B : Nat → Int) (i : Nat) (hi : i < 7) : bits BinOp.or .u8 (fl B i) ((2 ^ i : Nat) : Int) = fl B i + ((2 ^ i : Nat) : Int) := by
  obtain ⟨h1, h2⟩ := fl_bd B i (by omega)
  have hp : (2 : Int) ^ i ≤ 128 := by
    rcases (by omega : i = 0 ∨ i = 1 ∨ i = 2 ∨ i = 3 ∨ i = 4 ∨ i = 5 ∨ i = 6) with e | e | e | e | e | e | e <;> subst e <;> decide
  have hq : ((2 ^ i : Nat) : Int) = (2 : Int) ^ i := by norm_cast
  have := or_flag ⟨(fl B i - 128).toNat, by omega⟩ ⟨i, hi⟩ (by show (fl B i - 128).toNat < 2 ^ i; omega)
  rwa [show (128 : Int) + (((fl B i - 128).toNat : Nat) : Int) = fl B i from by omega] at this

theorem bit_fl (B : Nat → Int) (j : Nat) (hj : j < 7) : bit (fl B 7) j = decide (B j ≠ 0) := by
  have h0 := one_01 (B 0); have h1 := one_01 (B 1); have h2 := one_01 (B 2); have h3 := one_01 (B 3); have h4 := one_01 (B 4); have h5 := one_01 (B 5); have h6 := one_01 (B 6)
  unfold bit
  rw [fl_sum]
  apply decide_eq_decide.2
  rw [← one_iff]
  rcases (by omega : j = 0 ∨ j = 1 ∨ j = 2 ∨ j = 3 ∨ j = 4 ∨ j = 5 ∨ j = 6) with e | e | e | e | e | e | e <;> subst e <;> simp <;> omega

/-- The reader's count is the writer's. -/
theorem cnt_fl (B : Nat → Int) : ∀ j, j ≤ 7 → 1 + cnt (fl B 7) j = (ls B j).length
  | 0, _ => rfl
  | j + 1, hj => by
    have ih := cnt_fl B j (by omega)
    have hb := bit_fl B j (by omega)
    by_cases h : B j = 0
    · have hb' : bit (fl B 7) j = false := by rw [hb]; simp [h]
      rw [cnt_clear hb', ls_clear h, ih]
    · have hb' : bit (fl B 7) j = true := by rw [hb]; simp [h]
      rw [cnt_set hb', ls_set h, List.length_append, List.length_singleton, ← ih]; omega

theorem ls_get (B : Nat → Int) (j : Nat) (h : B j ≠ 0) : ∀ k, j < k → (ls B k)[(ls B j).length]? = some (B j)
  | 0, hk => by omega
  | k + 1, hk => by
    by_cases e : j = k
    · subst e
      rw [ls_set h, List.getElem?_append_right (Nat.le_refl _)]; simp
    · have ih := ls_get B j h k (by omega)
      by_cases h2 : B k = 0
      · rw [ls_clear h2]; exact ih
      · rw [ls_set h2, List.getElem?_append_left (by
          have := List.getElem?_eq_some_iff.1 ih
          exact this.1)]
        exact ih

/-- The instruction, whole: the flags, the bytes, whatever follows. -/
def enc (B : Nat → Int) (tl : List Int) : List Int := (ls B 7).set 0 (fl B 7) ++ tl
theorem enc_zero (B : Nat → Int) (tl : List Int) : (enc B tl).getD 0 0 = fl B 7 := by
  obtain ⟨r, hr⟩ := ls_head B 7
  rw [enc, hr]; rfl
theorem enc_field (B : Nat → Int) (tl : List Int) (j : Nat) (hj : j < 7) : field (fun i => (enc B tl).getD i 0) j = B j := by
  unfold field
  simp only [enc_zero, bit_fl B j hj]
  by_cases h : B j = 0
  · simp [h]
  · simp only [ne_eq, h, not_false_eq_true, decide_true, if_true]
    rw [cnt_fl B j (by omega)]
    have hg := ls_get B j h 7 hj
    have hl := (ls_len B j).1
    have hlt := (List.getElem?_eq_some_iff.1 hg).1
    rw [enc, List.getD_eq_getElem?_getD, List.getElem?_append_left (by simpa using hlt), List.getElem?_set_ne (by omega), hg]
    rfl
theorem enc_len (B : Nat → Int) (tl : List Int) : 1 + cnt ((enc B tl).getD 0 0) 7 ≤ (enc B tl).length := by
  rw [enc_zero, cnt_fl B 7 (Nat.le_refl _), enc, List.length_append, List.length_set]; omega
theorem enc_off (B : Nat → Int) (tl : List Int) : offTo (fun i => (enc B tl).getD i 0) 7 = B 0 + B 1 * 256 + B 2 * 65536 + B 3 * 16777216 := by
  simp only [offTo, enc_field B tl 0 (by omega), enc_field B tl 1 (by omega), enc_field B tl 2 (by omega), enc_field B tl 3 (by omega)]
  simp
theorem enc_size (B : Nat → Int) (tl : List Int) : sizeTo (fun i => (enc B tl).getD i 0) 7 = B 4 + B 5 * 256 + B 6 * 65536 := by
  simp only [sizeTo, enc_field B tl 4 (by omega), enc_field B tl 5 (by omega), enc_field B tl 6 (by omega)]
  simp
end Go.Proofs.Qxb6605551a
