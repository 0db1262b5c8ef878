import Derived.Test.Qxb6605551aBase
import Derived.Test.Qxb6605551aRadix
import Derived.Laws.Bits128
import Derived.Laws.Rows
namespace Go.Proofs.Qxb6605551a
open Go.RowKit

theorem i64_and2047 (n : Int) : bits .and .i64 n 2047 = n % 2048 := by
  have h : (BitVec.ofInt 64 2047).toNat = 2 ^ 11 - 1 := by decide
  have key : (BitVec.ofInt 64 n &&& BitVec.ofInt 64 2047).toNat = (n % ((2 ^ 64 : Nat) : Int)).toNat % 2 ^ 11 := by
    rw [BitVec.toNat_and, BitVec.toNat_ofInt, h, Nat.and_two_pow_sub_one_eq_mod]
  show IntKind.i64.wrap ((BitVec.ofInt 64 n &&& BitVec.ofInt 64 2047).toNat : Nat) = n % 2048
  rw [key, IntKind.wrap_i64]
  omega

theorem ret_i64 {v : Value} {a b : Int} (h : v = .int .i64 a) (e : a = b) : Ending.returned v = .returned (.int .i64 b) := by rw [h, e]

/-- The closure digit, the shift in its variable. -/
theorem digit_any (z : Int) (s : Nat) (b : Nat) (w : World) (hs : s = 0 ∨ s = 11 ∨ s = 22 ∨ s = 33 ∨ s = 44 ∨ s = 55) (hc : w.cell? ⟨b, 0, none⟩ = some (.int .i64 s)) :
    Calls Try.prog 24 #[.int .i64 z, .pointer (some ⟨b, 0, none⟩)] w fun e w' => e = .returned (.int .i64 (z / 2 ^ s % 2048)) ∧ w' = w := by
  rcases hs with rfl | rfl | rfl | rfl | rfl | rfl
  all_goals
    go_enter Try.func24, Try.ntmps24
    go_wp2
    go_ret
    exact ⟨ret_i64 rfl (by rw [i64_and2047]; simp), rfl⟩
end Go.Proofs.Qxb6605551a
