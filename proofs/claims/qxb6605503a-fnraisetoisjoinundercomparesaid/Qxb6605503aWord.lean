import Derived.Test.Qxb6605503aBase
import Derived.Test.Qxb6605503aPlain
import Derived.RegionTactic
import Derived.Lib.EndianBits
namespace Go.Proofs.Qxb6605503a
open Go.RowKit Go.Lib

theorem ret_u {k : IntKind} {v : Value} {b : Int} (h : v = .int k b) : Ending.returned v = .returned (.int k b) := by rw [h]

set_option maxHeartbeats 400000 in
theorem word32_any (s : ByteArray) (hs : 4 ≤ s.size) (w : World) : Calls Try.prog 32 #[.string s] w fun e w' => e = .returned (.int .u32 (w32 s)) ∧ ∃ m, w' = w.drewN m := by
  have h0 : 0 < s.size := by omega
  have h1 : 1 < s.size := by omega
  have h2 : 2 < s.size := by omega
  have h3 : 3 < s.size := by omega
  have g1 : (1 : Int) < (s.size : Int) := by omega
  have g2 : (2 : Int) < (s.size : Int) := by omega
  have g3 : (3 : Int) < (s.size : Int) := by omega
  have b0 : s[0].toNat < 256 := s[0].toNat_lt
  have b1 : s[1].toNat < 256 := s[1].toNat_lt
  have b2 : s[2].toNat < 256 := s[2].toNat_lt
  have b3 : s[3].toNat < 256 := s[3].toNat_lt
  unfold w32
  rw [byteAt_eq s 0 h0, byteAt_eq s 1 h1, byteAt_eq s 2 h2, byteAt_eq s 3 h3]
  go_enter Try.func32, Try.ntmps32
  go_wp2
  go_quiet (fail)
  go_wp2
  go_ret
  refine ⟨ret_u ?_, nq, rfl⟩
  simp (disch := omega) only [u32_or8, u32_or16, u32_or24]
  rfl

set_option maxHeartbeats 1000000 in
theorem word64_any (s : ByteArray) (hs : 8 ≤ s.size) (w : World) : Calls Try.prog 33 #[.string s] w fun e w' => e = .returned (.int .u64 (w64 s)) ∧ ∃ m, w' = w.drewN m := by
  have h0 : 0 < s.size := by omega
  have h1 : 1 < s.size := by omega
  have h2 : 2 < s.size := by omega
  have h3 : 3 < s.size := by omega
  have h4 : 4 < s.size := by omega
  have h5 : 5 < s.size := by omega
  have h6 : 6 < s.size := by omega
  have h7 : 7 < s.size := by omega
  have g1 : (1 : Int) < (s.size : Int) := by omega
  have g2 : (2 : Int) < (s.size : Int) := by omega
  have g3 : (3 : Int) < (s.size : Int) := by omega
  have g4 : (4 : Int) < (s.size : Int) := by omega
  have g5 : (5 : Int) < (s.size : Int) := by omega
  have g6 : (6 : Int) < (s.size : Int) := by omega
  have g7 : (7 : Int) < (s.size : Int) := by omega
  have b0 : s[0].toNat < 256 := s[0].toNat_lt
  have b1 : s[1].toNat < 256 := s[1].toNat_lt
  have b2 : s[2].toNat < 256 := s[2].toNat_lt
  have b3 : s[3].toNat < 256 := s[3].toNat_lt
  have b4 : s[4].toNat < 256 := s[4].toNat_lt
  have b5 : s[5].toNat < 256 := s[5].toNat_lt
  have b6 : s[6].toNat < 256 := s[6].toNat_lt
  have b7 : s[7].toNat < 256 := s[7].toNat_lt
  unfold w64
  rw [byteAt_eq s 0 h0, byteAt_eq s 1 h1, byteAt_eq s 2 h2, byteAt_eq s 3 h3, byteAt_eq s 4 h4, byteAt_eq s 5 h5, byteAt_eq s 6 h6, byteAt_eq s 7 h7]
  go_enter Try.func33, Try.ntmps33
  go_wp2
  go_quiet (fail)
  go_wp2
  go_ret
  refine ⟨ret_u ?_, nq, rfl⟩
  simp (disch := omega) only [u64_or8, u64_or16, u64_or24, u64_or32, u64_or40, u64_or48, u64_or56]
  rfl
end Go.Proofs.Qxb6605503a
