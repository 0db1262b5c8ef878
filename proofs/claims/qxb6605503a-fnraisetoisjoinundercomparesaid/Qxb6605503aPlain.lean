/- THE PLAIN MATHEMATICS: no Go in sight. -/
import Derived.Lib.EndianBits
import Derived.Laws.Strings
namespace Go.Proofs.Qxb6605503a

/-- Byte i of s, as a number. -/
def byteAt (s : ByteArray) (i : Nat) : Int := (s.data.toList.getD i 0).toNat
theorem byteAt_eq (s : ByteArray) (i : Nat) (h : i < s.size) : byteAt s i = (s[i].toNat : Int) := by
  have h' : i < s.data.toList.length := by simpa using h
  rw [byteAt, List.getD_eq_getElem?_getD, List.getElem?_eq_getElem h']
  rfl
theorem byteAt_bd (s : ByteArray) (i : Nat) : 0 ≤ byteAt s i ∧ byteAt s i < 256 := by
  unfold byteAt
  have := (s.data.toList.getD i 0).toNat_lt
  omega
def w32 (s : ByteArray) : Int := byteAt s 0 + byteAt s 1 * 256 + byteAt s 2 * 65536 + byteAt s 3 * 16777216
def w64 (s : ByteArray) : Int := byteAt s 0 + byteAt s 1 * 256 + byteAt s 2 * 65536 + byteAt s 3 * 16777216 + byteAt s 4 * 4294967296 + byteAt s 5 * 1099511627776 + byteAt s 6 * 281474976710656 + byteAt s 7 * 72057594037927936


theorem w32_bytes {s t : ByteArray} (h : w32 s = w32 t) : byteAt s 0 = byteAt t 0 ∧ byteAt s 1 = byteAt t 1 ∧ byteAt s 2 = byteAt t 2 ∧ byteAt s 3 = byteAt t 3 := by
  unfold w32 at h
  have := byteAt_bd s 0; have := byteAt_bd s 1; have := byteAt_bd s 2; have := byteAt_bd s 3
  have := byteAt_bd t 0; have := byteAt_bd t 1; have := byteAt_bd t 2; have := byteAt_bd t 3
  omega
theorem w64_bytes {s t : ByteArray} (h : w64 s = w64 t) : byteAt s 0 = byteAt t 0 ∧ byteAt s 1 = byteAt t 1 ∧ byteAt s 2 = byteAt t 2 ∧ byteAt s 3 = byteAt t 3 ∧
    byteAt s 4 = byteAt t 4 ∧ byteAt s 5 = byteAt t 5 ∧ byteAt s 6 = byteAt t 6 ∧ byteAt s 7 = byteAt t 7 := by
  unfold w64 at h
  have := byteAt_bd s 0; have := byteAt_bd s 1; have := byteAt_bd s 2; have := byteAt_bd s 3
  have := byteAt_bd t 0; have := byteAt_bd t 1; have := byteAt_bd t 2; have := byteAt_bd t 3
  have := byteAt_bd s 4; have := byteAt_bd s 5; have := byteAt_bd s 6; have := byteAt_bd s 7
  have := byteAt_bd t 4; have := byteAt_bd t 5; have := byteAt_bd t 6; have := byteAt_bd t 7
  omega

theorem bytes_ext {s t : ByteArray} (hl : s.size = t.size) (h : ∀ i, i < s.size → byteAt s i = byteAt t i) : s = t := by
  apply ByteArray.ext
  apply Array.ext
  · exact hl
  · intro i h1 h2
    have := h i h1
    rw [byteAt_eq s i h1, byteAt_eq t i h2] at this
    have e : s[i].toNat = t[i].toNat := by omega
    exact UInt8.toNat_inj.1 e

theorem toList_inj {s t : ByteArray} (h : s.toList = t.toList) : s = t := by
  rw [ByteArray.toList_eq, ByteArray.toList_eq] at h
  exact ByteArray.ext (Array.toList_inj.1 h)

theorem byteAt_extract (s : ByteArray) (k i : Nat) (h : k + i < s.size) : byteAt (s.extract k s.size) i = byteAt s (k + i) := by
  have h' : i < (s.extract k s.size).size := by simp [ByteArray.size_extract]; omega
  rw [byteAt_eq _ _ h', byteAt_eq _ _ h, ByteArray.getElem_extract]

theorem eq_of_w32 {s t : ByteArray} (hl : s.size = t.size) (h4 : 4 ≤ s.size) (h8 : s.size ≤ 8) (h1 : w32 s = w32 t) (h2 : w32 (s.extract (s.size - 4) s.size) = w32 (t.extract (t.size - 4) t.size)) : s = t := by
  apply bytes_ext hl
  obtain ⟨a0, a1, a2, a3⟩ := w32_bytes h1
  have h2' := w32_bytes h2
  rw [byteAt_extract s _ 0 (by omega), byteAt_extract s _ 1 (by omega), byteAt_extract s _ 2 (by omega), byteAt_extract s _ 3 (by omega),
    byteAt_extract t _ 0 (by omega), byteAt_extract t _ 1 (by omega), byteAt_extract t _ 2 (by omega), byteAt_extract t _ 3 (by omega), ← hl] at h2'
  obtain ⟨b0, b1, b2, b3⟩ := h2'
  intro i hi
  rcases (by omega : i = 0 ∨ i = 1 ∨ i = 2 ∨ i = 3 ∨ i = s.size - 4 + 0 ∨ i = s.size - 4 + 1 ∨ i = s.size - 4 + 2 ∨ i = s.size - 4 + 3) with e | e | e | e | e | e | e | e <;> rw [e] <;> assumption
theorem eq_of_w64 {s t : ByteArray} (hl : s.size = t.size) (h4 : 8 ≤ s.size) (h8 : s.size ≤ 16) (h1 : w64 s = w64 t) (h2 : w64 (s.extract (s.size - 8) s.size) = w64 (t.extract (t.size - 8) t.size)) : s = t := by
  apply bytes_ext hl
  obtain ⟨a0, a1, a2, a3, a4, a5, a6, a7⟩ := w64_bytes h1
  have h2' := w64_bytes h2
  rw [byteAt_extract s _ 0 (by omega), byteAt_extract s _ 1 (by omega), byteAt_extract s _ 2 (by omega), byteAt_extract s _ 3 (by omega), byteAt_extract s _ 4 (by omega), byteAt_extract s _ 5 (by omega), byteAt_extract s _ 6 (by omega), byteAt_extract s _ 7 (by omega),
    byteAt_extract t _ 0 (by omega), byteAt_extract t _ 1 (by omega), byteAt_extract t _ 2 (by omega), byteAt_extract t _ 3 (by omega), byteAt_extract t _ 4 (by omega), byteAt_extract t _ 5 (by omega), byteAt_extract t _ 6 (by omega), byteAt_extract t _ 7 (by omega), ← hl] at h2'
  obtain ⟨b0, b1, b2, b3, b4, b5, b6, b7⟩ := h2'
  intro i hi
  rcases (by omega : i = 0 ∨ i = 1 ∨ i = 2 ∨ i = 3 ∨ i = 4 ∨ i = 5 ∨ i = 6 ∨ i = 7 ∨ i = s.size - 8 + 0 ∨ i = s.size - 8 + 1 ∨ i = s.size - 8 + 2 ∨ i = s.size - 8 + 3 ∨ i = s.size - 8 + 4 ∨ i = s.size - 8 + 5 ∨ i = s.size - 8 + 6 ∨ i = s.size - 8 + 7) with e | e | e | e | e | e | e | e | e | e | e | e | e | e | e | e <;> rw [e] <;> assumption

/-- The length of the longest common prefix of A and B, m long at most. -/
def lcp : Nat → (Nat → ByteArray) → (Nat → ByteArray) → Nat
  | 0, _, _ => 0
  | m + 1, A, B => if A 0 = B 0 then lcp m (fun i => A (i + 1)) (fun i => B (i + 1)) + 1 else 0
theorem lcp_spec (m : Nat) : ∀ A B, lcp m A B ≤ m ∧ (∀ i, i < lcp m A B → A i = B i) ∧ (lcp m A B < m → A (lcp m A B) ≠ B (lcp m A B)) := by
  induction m with
  | zero => intro A B; simp [lcp]
  | succ m ih =>
    intro A B
    by_cases h : A 0 = B 0
    · obtain ⟨i1, i2, i3⟩ := ih (fun i => A (i + 1)) (fun i => B (i + 1))
      simp only [lcp, if_pos h]
      refine ⟨by omega, fun i hi => ?_, fun hlt => i3 (by omega)⟩
      cases i with
      | zero => exact h
      | succ i => exact i2 i (by omega)
    · simp only [lcp, if_neg h]
      exact ⟨Nat.zero_le _, fun i hi => by omega, fun _ => h⟩
theorem lcp_uniq {m k : Nat} {A B : Nat → ByteArray} (h1 : k ≤ m) (h2 : ∀ i, i < k → A i = B i) (h3 : k < m → A k ≠ B k) : k = lcp m A B := by
  obtain ⟨i1, i2, i3⟩ := lcp_spec m A B
  rcases Nat.lt_trichotomy k (lcp m A B) with h | h | h
  · exact absurd (i2 k h) (h3 (by omega))
  · exact h
  · exact absurd (h2 _ h) (i3 (by omega))
end Go.Proofs.Qxb6605503a
