/- THE PLAIN MATHEMATICS OF A COPY INSTRUCTION: no Go in sight. -/
import Derived.Lib.EndianBits
import Derived.Laws.BitsAllLaws
namespace Go.Proofs.Qxb6605551a

/-- Bit i of f. -/
def bit (f : Int) (i : Nat) : Bool := decide (f / 2 ^ i % 2 = 1)
/-- How many of the bits below i are set. -/
def cnt (f : Int) : Nat → Nat
  | 0 => 0
  | i + 1 => cnt f i + if bit f i then 1 else 0
theorem cnt_mono (f : Int) {i j : Nat} (h : i ≤ j) : cnt f i ≤ cnt f j := by
  induction j with
  | zero => obtain rfl : i = 0 := by omega
            exact Nat.le_refl _
  | succ j ih =>
    by_cases e : i = j + 1
    · subst e; exact Nat.le_refl _
    · have := ih (by omega)
      show _ ≤ cnt f j + _
      omega
theorem cnt_set {f : Int} {i : Nat} (h : bit f i = true) : cnt f (i + 1) = cnt f i + 1 := by show cnt f i + _ = _; rw [h]; rfl
theorem cnt_clear {f : Int} {i : Nat} (h : bit f i = false) : cnt f (i + 1) = cnt f i := by show cnt f i + _ = _; rw [h]; rfl
theorem cnt_le (f : Int) : ∀ i, cnt f i ≤ i
  | 0 => Nat.le_refl _
  | i + 1 => by
    have := cnt_le f i
    show cnt f i + _ ≤ _
    split <;> omega

/-- Field i of the copy instruction Z: its byte, or 0. -/
def field (Z : Nat → Int) (i : Nat) : Int := if bit (Z 0) i then Z (1 + cnt (Z 0) i) else 0
/-- The little-endian number of the fields of the offset below i. -/
def offTo (Z : Nat → Int) : Nat → Int
  | 0 => 0
  | i + 1 => offTo Z i + if i < 4 then field Z i * 256 ^ i else 0
def sizeTo (Z : Nat → Int) : Nat → Int
  | 0 => 0
  | i + 1 => sizeTo Z i + if 4 ≤ i then field Z i * 256 ^ (i - 4) else 0
/-- The size that is meant. -/
def sizeOr (s : Int) : Int := if s = 0 then 65536 else s

theorem and_bit : ∀ (f : Fin 256) (i : Fin 8), (bits BinOp.and .u8 ((f.val : Nat) : Int) ((2 ^ i.val : Nat) : Int) == 0) = !bit ((f.val : Nat) : Int) i.val := by decide +kernel
theorem and127 : ∀ (f : Fin 256) (i : Fin 7), (bits BinOp.and .u8 (bits BinOp.and .u8 ((f.val : Nat) : Int) 127 / 2 ^ i.val) 1 == 1) = bit ((f.val : Nat) : Int) i.val := by decide +kernel
theorem and127_bd : ∀ (f : Fin 256), 0 ≤ bits BinOp.and .u8 ((f.val : Nat) : Int) 127 ∧ bits BinOp.and .u8 ((f.val : Nat) : Int) 127 ≤ 127 := by decide +kernel
end Go.Proofs.Qxb6605551a
