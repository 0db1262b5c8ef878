import Derived.Test.Qxb6605551aBase
import Derived.Test.Qxb6605551aPlain
namespace Go.Proofs.Qxb6605551a
open Go.RowKit Go.Lib

/-- What readCopy hands back. -/
def CopyIs (w : World) (Z : Nat → Int) (e : Ending) (w' : World) : Prop :=
  e = .returned (.tuple #[.int .u64 (offTo Z 7), .int .u64 (sizeOr (sizeTo Z 7))]) ∧ ∃ m, w' = w.drewN m

theorem and_bit' (f : Int) (h0 : 0 ≤ f) (h1 : f ≤ 255) (i : Nat) (hi : i < 8) : (bits BinOp.and .u8 f ((2 ^ i : Nat) : Int) == 0) = !bit f i := by
  have := and_bit ⟨f.toNat, by omega⟩ ⟨i, hi⟩
  simpa [Int.toNat_of_nonneg h0] using this

theorem offTo_bd (Z : Nat → Int) (hz : ∀ i, 0 ≤ Z i ∧ Z i ≤ 255) : 0 ≤ offTo Z 1 ∧ offTo Z 1 < 256 ∧ 0 ≤ offTo Z 2 ∧ offTo Z 2 < 65536 ∧ 0 ≤ offTo Z 3 ∧ offTo Z 3 < 16777216 ∧ 0 ≤ offTo Z 4 ∧ offTo Z 4 < 4294967296 := by
  have f : ∀ i, 0 ≤ field Z i ∧ field Z i ≤ 255 := fun i => by unfold field; split; exact hz _; omega
  have f0 := f 0; have f1 := f 1; have f2 := f 2; have f3 := f 3
  simp only [offTo]
  simp
  omega
theorem sizeTo_bd (Z : Nat → Int) (hz : ∀ i, 0 ≤ Z i ∧ Z i ≤ 255) : 0 ≤ sizeTo Z 5 ∧ sizeTo Z 5 < 256 ∧ 0 ≤ sizeTo Z 6 ∧ sizeTo Z 6 < 65536 ∧ 0 ≤ sizeTo Z 7 ∧ sizeTo Z 7 < 16777216 := by
  have f : ∀ i, 0 ≤ field Z i ∧ field Z i ≤ 255 := fun i => by unfold field; split; exact hz _; omega
  have f4 := f 4; have f5 := f 5; have f6 := f 6
  simp only [sizeTo]
  simp
  omega
theorem off_same {Z : Nat → Int} {i : Nat} (h : 4 ≤ i) : offTo Z (i + 1) = offTo Z i := by
  show offTo Z i + _ = _; rw [if_neg (by omega)]; omega
theorem size_same {Z : Nat → Int} {i : Nat} (h : i < 4) : sizeTo Z (i + 1) = sizeTo Z i := by
  show sizeTo Z i + _ = _; rw [if_neg (by omega)]; omega
theorem off_clear {Z : Nat → Int} {i : Nat} (h : bit (Z 0) i = false) : offTo Z (i + 1) = offTo Z i := by
  show offTo Z i + _ = _; rw [field, h]; simp
theorem size_clear {Z : Nat → Int} {i : Nat} (h : bit (Z 0) i = false) : sizeTo Z (i + 1) = sizeTo Z i := by
  show sizeTo Z i + _ = _; rw [field, h]; simp
theorem off_set {Z : Nat → Int} {i : Nat} (h : bit (Z 0) i = true) (hi : i < 4) : offTo Z (i + 1) = offTo Z i + Z (1 + cnt (Z 0) i) * 256 ^ i := by
  show offTo Z i + _ = _; rw [field, h, if_pos hi]; rfl
theorem size_set {Z : Nat → Int} {i : Nat} (h : bit (Z 0) i = true) (hi : 4 ≤ i) : sizeTo Z (i + 1) = sizeTo Z i + Z (1 + cnt (Z 0) i) * 256 ^ (i - 4) := by
  show sizeTo Z i + _ = _; rw [field, h, if_pos hi]; rfl

theorem off0 (Z : Nat → Int) : offTo Z 0 = 0 := rfl
theorem size4 (Z : Nat → Int) : sizeTo Z 4 = 0 := by simp [sizeTo]
theorem ret_u64 {v : Value} {a b : Int} (h : v = .int .u64 a) (e : a = b) : v = .int .u64 b := by rw [h, e]
theorem or0 (x : Int) (h0 : 0 ≤ x) (h1 : x < 18446744073709551616) : bits BinOp.or .u64 0 x = x := by
  rw [u64_or 0 x (by omega) (by omega) h0 h1]
  simp [Int.toNat_of_nonneg h0]

set_option maxHeartbeats 4000000 in
set_option maxRecDepth 100000 in
theorem readcopy_any (a : Option Addr) (n c : Nat) (Z : Nat → Int) (w : World) (hS : Ints .u8 w a n Z) (hz : ∀ i, 0 ≤ Z i ∧ Z i ≤ 255) (hn : 1 + cnt (Z 0) 7 ≤ n) (hm : n ≤ 1048576) :
    Calls Try.prog 21 #[.slice a n c] w (CopyIs w Z) := by
  obtain ⟨b, off, rfl, hc⟩ := hS (by omega)
  have HC : Hid (∀ i, i < n → w.cell? ⟨b, off + i, none⟩ = some (.int .u8 (Z i))) := hc
  have HZ : Hid (∀ i, 0 ≤ Z i ∧ Z i ≤ 255) := hz
  have HN : Hid (1 + cnt (Z 0) 7 ≤ n) := hn
  have g0 : w.cell? ⟨b, off, none⟩ = some (.int .u8 (Z 0)) := by simpa using hc 0 (by omega)
  have n0 : (0 : Int) < (n : Int) := by omega
  have n0' : 0 < n := by omega
  have z0 := hz 0
  clear hS hc hz hn
  go_enter Try.func21, Try.ntmps21
  go_wp2
  go_loopw [2, 3, 4, 6] (fun v2 v3 v4 v6 wr => ∃ i : Nat, i ≤ 7 ∧ v2 = .int .u64 (offTo Z i) ∧ v3 = .int .u64 (sizeTo Z i) ∧ v4 = .int .i64 (1 + cnt (Z 0) i : Nat) ∧ v6 = .int .i64 i ∧ ∃ q, wr = w.drewN q) (fun _ _ _ v6 _ => 7 - (intOf v6).toNat)
  case atStart => exact ⟨0, by omega, rfl, rfl, rfl, rfl, 0, rfl⟩
  case round =>
    obtain ⟨i, hi, rfl, rfl, rfl, rfl, q, rfl⟩ := hrel
    have OB := offTo_bd Z HZ.out
    have SB := sizeTo_bd Z HZ.out
    have cl := cnt_le (Z 0) i
    by_cases h7 : i = 7
    · subst h7
      by_cases hs0 : sizeTo Z 7 = 0
      · have hs0' : (sizeTo Z 7 == 0) = true := beq_iff_eq.2 hs0
        have HR : Hid (sizeOr (sizeTo Z 7) = 65536) := (by rw [hs0]; rfl : sizeOr (sizeTo Z 7) = 65536)
        clear hs0 OB SB
        go_wp2
        go_ret2
        exact ⟨by rw [HR.out]; rfl, q, rfl⟩
      · have hs0' : (sizeTo Z 7 == 0) = false := beq_eq_false_iff_ne.2 hs0
        have HR : Hid (sizeOr (sizeTo Z 7) = sizeTo Z 7) := (by rw [sizeOr, if_neg hs0] : sizeOr (sizeTo Z 7) = sizeTo Z 7)
        clear hs0 OB SB
        go_wp2
        go_ret2
        exact ⟨by rw [HR.out]; rfl, q, rfl⟩
    by_cases h0 : i = 0
    · subst h0
      rw [show ((0 : Nat) : Int) = 0 from rfl]
      have hb := and_bit' (Z 0) z0.1 z0.2 0 (by omega)
      cases hbit : bit (Z 0) 0
      · rw [hbit] at hb
        have hb' : (bits BinOp.and .u8 (Z 0) 1 == 0) = true := hb
        have E1 : Hid (offTo Z 1 = offTo Z 0) := off_clear hbit
        have E2 : Hid (sizeTo Z 1 = sizeTo Z 0) := size_clear hbit
        have E3 : Hid (cnt (Z 0) 1 = cnt (Z 0) 0) := cnt_clear hbit
        clear hb hbit OB SB cl
        go_wp2
        go_quiet (fail)
        go_wp2
        go_roundw
        case rel => exact ⟨1, by omega, by rw [E1.out], by rw [E2.out], by rw [E3.out], by go_num, _, (by first | rfl | exact World.drewN_drewN _ _ _)⟩
        case measure => simp [intOf]
      · rw [hbit] at hb
        have hb' : (bits BinOp.and .u8 (Z 0) 1 == 0) = false := hb
        obtain ⟨p, hp⟩ : ∃ p, p = 1 + cnt (Z 0) 0 := ⟨_, rfl⟩
        have hpn : p < n := by
          have h1 := HN.out
          have h2 := cnt_mono (Z 0) (show 0 + 1 ≤ 7 by omega)
          have h3 := cnt_set hbit
          omega
        have gp := HC.out p hpn
        have zp := HZ.out p
        have E1 : Hid (offTo Z 1 = offTo Z 0 + Z p * 1) := (by rw [hp]; simpa using off_set (i := 0) hbit (by omega) : offTo Z 1 = offTo Z 0 + Z p * 1)
        have E2 : Hid (sizeTo Z 1 = sizeTo Z 0) := size_same (by omega)
        have E3 : Hid (1 + cnt (Z 0) 1 = p + 1) := (by rw [hp, cnt_set hbit]; omega : 1 + cnt (Z 0) 1 = p + 1)
        have hpz : (p : Int) < (n : Int) := by omega
        rw [← hp]
        have A0 : 0 ≤ offTo Z 0 ∧ offTo Z 0 < 1 := by simp [offTo]
        obtain ⟨A1, A2⟩ := A0
        clear hb hbit OB SB cl hp
        go_wp2
        go_quiet (fail)
        go_wp2
        go_roundw
        case rel =>
          refine ⟨1, by omega, ?_, ?_, by rw [E3.out]; go_num, by go_num, _, (by first | rfl | exact World.drewN_drewN _ _ _)⟩
          · rw [E1.out]; exact ret_u64 rfl (by rw [off0, or0 _ (by omega) (by omega)]; omega)
          · rw [E2.out]
        case measure => simp [intOf]
    by_cases h1 : i = 1
    · subst h1
      rw [show ((1 : Nat) : Int) = 1 from rfl]
      have hb := and_bit' (Z 0) z0.1 z0.2 1 (by omega)
      cases hbit : bit (Z 0) 1
      · rw [hbit] at hb
        have hb' : (bits BinOp.and .u8 (Z 0) 2 == 0) = true := hb
        have E1 : Hid (offTo Z 2 = offTo Z 1) := off_clear hbit
        have E2 : Hid (sizeTo Z 2 = sizeTo Z 1) := size_clear hbit
        have E3 : Hid (cnt (Z 0) 2 = cnt (Z 0) 1) := cnt_clear hbit
        clear hb hbit OB SB cl
        go_wp2
        go_quiet (fail)
        go_wp2
        go_roundw
        case rel => exact ⟨2, by omega, by rw [E1.out], by rw [E2.out], by rw [E3.out], by go_num, _, (by first | rfl | exact World.drewN_drewN _ _ _)⟩
        case measure => simp [intOf]
      · rw [hbit] at hb
        have hb' : (bits BinOp.and .u8 (Z 0) 2 == 0) = false := hb
        obtain ⟨p, hp⟩ : ∃ p, p = 1 + cnt (Z 0) 1 := ⟨_, rfl⟩
        have hpn : p < n := by
          have h1 := HN.out
          have h2 := cnt_mono (Z 0) (show 1 + 1 ≤ 7 by omega)
          have h3 := cnt_set hbit
          omega
        have gp := HC.out p hpn
        have zp := HZ.out p
        have E1 : Hid (offTo Z 2 = offTo Z 1 + Z p * 256) := (by rw [hp]; simpa using off_set (i := 1) hbit (by omega) : offTo Z 2 = offTo Z 1 + Z p * 256)
        have E2 : Hid (sizeTo Z 2 = sizeTo Z 1) := size_same (by omega)
        have E3 : Hid (1 + cnt (Z 0) 2 = p + 1) := (by rw [hp, cnt_set hbit]; omega : 1 + cnt (Z 0) 2 = p + 1)
        have hpz : (p : Int) < (n : Int) := by omega
        rw [← hp]
        have A0 : 0 ≤ offTo Z 1 ∧ offTo Z 1 < 256 := by omega
        obtain ⟨A1, A2⟩ := A0
        clear hb hbit OB SB cl hp
        go_wp2
        go_quiet (fail)
        go_wp2
        go_roundw
        case rel =>
          refine ⟨2, by omega, ?_, ?_, by rw [E3.out]; go_num, by go_num, _, (by first | rfl | exact World.drewN_drewN _ _ _)⟩
          · rw [E1.out]; exact ret_u64 rfl (u64_or8 _ _ (by omega) (by omega) (by omega) (by omega) (by omega))
          · rw [E2.out]
        case measure => simp [intOf]
    by_cases h2 : i = 2
    · subst h2
      rw [show ((2 : Nat) : Int) = 2 from rfl]
      have hb := and_bit' (Z 0) z0.1 z0.2 2 (by omega)
      cases hbit : bit (Z 0) 2
      · rw [hbit] at hb
        have hb' : (bits BinOp.and .u8 (Z 0) 4 == 0) = true := hb
        have E1 : Hid (offTo Z 3 = offTo Z 2) := off_clear hbit
        have E2 : Hid (sizeTo Z 3 = sizeTo Z 2) := size_clear hbit
        have E3 : Hid (cnt (Z 0) 3 = cnt (Z 0) 2) := cnt_clear hbit
        clear hb hbit OB SB cl
        go_wp2
        go_quiet (fail)
        go_wp2
        go_roundw
        case rel => exact ⟨3, by omega, by rw [E1.out], by rw [E2.out], by rw [E3.out], by go_num, _, (by first | rfl | exact World.drewN_drewN _ _ _)⟩
        case measure => simp [intOf]
      · rw [hbit] at hb
        have hb' : (bits BinOp.and .u8 (Z 0) 4 == 0) = false := hb
        obtain ⟨p, hp⟩ : ∃ p, p = 1 + cnt (Z 0) 2 := ⟨_, rfl⟩
        have hpn : p < n := by
          have h1 := HN.out
          have h2 := cnt_mono (Z 0) (show 2 + 1 ≤ 7 by omega)
          have h3 := cnt_set hbit
          omega
        have gp := HC.out p hpn
        have zp := HZ.out p
        have E1 : Hid (offTo Z 3 = offTo Z 2 + Z p * 65536) := (by rw [hp]; simpa using off_set (i := 2) hbit (by omega) : offTo Z 3 = offTo Z 2 + Z p * 65536)
        have E2 : Hid (sizeTo Z 3 = sizeTo Z 2) := size_same (by omega)
        have E3 : Hid (1 + cnt (Z 0) 3 = p + 1) := (by rw [hp, cnt_set hbit]; omega : 1 + cnt (Z 0) 3 = p + 1)
        have hpz : (p : Int) < (n : Int) := by omega
        rw [← hp]
        have A0 : 0 ≤ offTo Z 2 ∧ offTo Z 2 < 65536 := by omega
        obtain ⟨A1, A2⟩ := A0
        clear hb hbit OB SB cl hp
        go_wp2
        go_quiet (fail)
        go_wp2
        go_roundw
        case rel =>
          refine ⟨3, by omega, ?_, ?_, by rw [E3.out]; go_num, by go_num, _, (by first | rfl | exact World.drewN_drewN _ _ _)⟩
          · rw [E1.out]; exact ret_u64 rfl (u64_or16 _ _ (by omega) (by omega) (by omega) (by omega) (by omega))
          · rw [E2.out]
        case measure => simp [intOf]
    by_cases h3 : i = 3
    · subst h3
      rw [show ((3 : Nat) : Int) = 3 from rfl]
      have hb := and_bit' (Z 0) z0.1 z0.2 3 (by omega)
      cases hbit : bit (Z 0) 3
      · rw [hbit] at hb
        have hb' : (bits BinOp.and .u8 (Z 0) 8 == 0) = true := hb
        have E1 : Hid (offTo Z 4 = offTo Z 3) := off_clear hbit
        have E2 : Hid (sizeTo Z 4 = sizeTo Z 3) := size_clear hbit
        have E3 : Hid (cnt (Z 0) 4 = cnt (Z 0) 3) := cnt_clear hbit
        clear hb hbit OB SB cl
        go_wp2
        go_quiet (fail)
        go_wp2
        go_roundw
        case rel => exact ⟨4, by omega, by rw [E1.out], by rw [E2.out], by rw [E3.out], by go_num, _, (by first | rfl | exact World.drewN_drewN _ _ _)⟩
        case measure => simp [intOf]
      · rw [hbit] at hb
        have hb' : (bits BinOp.and .u8 (Z 0) 8 == 0) = false := hb
        obtain ⟨p, hp⟩ : ∃ p, p = 1 + cnt (Z 0) 3 := ⟨_, rfl⟩
        have hpn : p < n := by
          have h1 := HN.out
          have h2 := cnt_mono (Z 0) (show 3 + 1 ≤ 7 by omega)
          have h3 := cnt_set hbit
          omega
        have gp := HC.out p hpn
        have zp := HZ.out p
        have E1 : Hid (offTo Z 4 = offTo Z 3 + Z p * 16777216) := (by rw [hp]; simpa using off_set (i := 3) hbit (by omega) : offTo Z 4 = offTo Z 3 + Z p * 16777216)
        have E2 : Hid (sizeTo Z 4 = sizeTo Z 3) := size_same (by omega)
        have E3 : Hid (1 + cnt (Z 0) 4 = p + 1) := (by rw [hp, cnt_set hbit]; omega : 1 + cnt (Z 0) 4 = p + 1)
        have hpz : (p : Int) < (n : Int) := by omega
        rw [← hp]
        have A0 : 0 ≤ offTo Z 3 ∧ offTo Z 3 < 16777216 := by omega
        obtain ⟨A1, A2⟩ := A0
        clear hb hbit OB SB cl hp
        go_wp2
        go_quiet (fail)
        go_wp2
        go_roundw
        case rel =>
          refine ⟨4, by omega, ?_, ?_, by rw [E3.out]; go_num, by go_num, _, (by first | rfl | exact World.drewN_drewN _ _ _)⟩
          · rw [E1.out]; exact ret_u64 rfl (u64_or24 _ _ (by omega) (by omega) (by omega) (by omega) (by omega))
          · rw [E2.out]
        case measure => simp [intOf]
    by_cases h4 : i = 4
    · subst h4
      rw [show ((4 : Nat) : Int) = 4 from rfl]
      have hb := and_bit' (Z 0) z0.1 z0.2 4 (by omega)
      cases hbit : bit (Z 0) 4
      · rw [hbit] at hb
        have hb' : (bits BinOp.and .u8 (Z 0) 16 == 0) = true := hb
        have E1 : Hid (offTo Z 5 = offTo Z 4) := off_clear hbit
        have E2 : Hid (sizeTo Z 5 = sizeTo Z 4) := size_clear hbit
        have E3 : Hid (cnt (Z 0) 5 = cnt (Z 0) 4) := cnt_clear hbit
        clear hb hbit OB SB cl
        go_wp2
        go_quiet (fail)
        go_wp2
        go_roundw
        case rel => exact ⟨5, by omega, by rw [E1.out], by rw [E2.out], by rw [E3.out], by go_num, _, (by first | rfl | exact World.drewN_drewN _ _ _)⟩
        case measure => simp [intOf]
      · rw [hbit] at hb
        have hb' : (bits BinOp.and .u8 (Z 0) 16 == 0) = false := hb
        obtain ⟨p, hp⟩ : ∃ p, p = 1 + cnt (Z 0) 4 := ⟨_, rfl⟩
        have hpn : p < n := by
          have h1 := HN.out
          have h2 := cnt_mono (Z 0) (show 4 + 1 ≤ 7 by omega)
          have h3 := cnt_set hbit
          omega
        have gp := HC.out p hpn
        have zp := HZ.out p
        have E1 : Hid (sizeTo Z 5 = sizeTo Z 4 + Z p * 1) := (by rw [hp]; simpa using size_set (i := 4) hbit (by omega) : sizeTo Z 5 = sizeTo Z 4 + Z p * 1)
        have E2 : Hid (offTo Z 5 = offTo Z 4) := off_same (by omega)
        have E3 : Hid (1 + cnt (Z 0) 5 = p + 1) := (by rw [hp, cnt_set hbit]; omega : 1 + cnt (Z 0) 5 = p + 1)
        have hpz : (p : Int) < (n : Int) := by omega
        rw [← hp]
        have A0 : 0 ≤ sizeTo Z 4 ∧ sizeTo Z 4 < 1 := by simp [sizeTo]
        obtain ⟨A1, A2⟩ := A0
        clear hb hbit OB SB cl hp
        go_wp2
        go_quiet (fail)
        go_wp2
        go_roundw
        case rel =>
          refine ⟨5, by omega, ?_, ?_, by rw [E3.out]; go_num, by go_num, _, (by first | rfl | exact World.drewN_drewN _ _ _)⟩
          · rw [E2.out]
          · rw [E1.out]; exact ret_u64 rfl (by rw [size4, or0 _ (by omega) (by omega)]; omega)
        case measure => simp [intOf]
    by_cases h5 : i = 5
    · subst h5
      rw [show ((5 : Nat) : Int) = 5 from rfl]
      have hb := and_bit' (Z 0) z0.1 z0.2 5 (by omega)
      cases hbit : bit (Z 0) 5
      · rw [hbit] at hb
        have hb' : (bits BinOp.and .u8 (Z 0) 32 == 0) = true := hb
        have E1 : Hid (offTo Z 6 = offTo Z 5) := off_clear hbit
        have E2 : Hid (sizeTo Z 6 = sizeTo Z 5) := size_clear hbit
        have E3 : Hid (cnt (Z 0) 6 = cnt (Z 0) 5) := cnt_clear hbit
        clear hb hbit OB SB cl
        go_wp2
        go_quiet (fail)
        go_wp2
        go_roundw
        case rel => exact ⟨6, by omega, by rw [E1.out], by rw [E2.out], by rw [E3.out], by go_num, _, (by first | rfl | exact World.drewN_drewN _ _ _)⟩
        case measure => simp [intOf]
      · rw [hbit] at hb
        have hb' : (bits BinOp.and .u8 (Z 0) 32 == 0) = false := hb
        obtain ⟨p, hp⟩ : ∃ p, p = 1 + cnt (Z 0) 5 := ⟨_, rfl⟩
        have hpn : p < n := by
          have h1 := HN.out
          have h2 := cnt_mono (Z 0) (show 5 + 1 ≤ 7 by omega)
          have h3 := cnt_set hbit
          omega
        have gp := HC.out p hpn
        have zp := HZ.out p
        have E1 : Hid (sizeTo Z 6 = sizeTo Z 5 + Z p * 256) := (by rw [hp]; simpa using size_set (i := 5) hbit (by omega) : sizeTo Z 6 = sizeTo Z 5 + Z p * 256)
        have E2 : Hid (offTo Z 6 = offTo Z 5) := off_same (by omega)
        have E3 : Hid (1 + cnt (Z 0) 6 = p + 1) := (by rw [hp, cnt_set hbit]; omega : 1 + cnt (Z 0) 6 = p + 1)
        have hpz : (p : Int) < (n : Int) := by omega
        rw [← hp]
        have A0 : 0 ≤ sizeTo Z 5 ∧ sizeTo Z 5 < 256 := by omega
        obtain ⟨A1, A2⟩ := A0
        clear hb hbit OB SB cl hp
        go_wp2
        go_quiet (fail)
        go_wp2
        go_roundw
        case rel =>
          refine ⟨6, by omega, ?_, ?_, by rw [E3.out]; go_num, by go_num, _, (by first | rfl | exact World.drewN_drewN _ _ _)⟩
          · rw [E2.out]
          · rw [E1.out]; exact ret_u64 rfl (u64_or8 _ _ (by omega) (by omega) (by omega) (by omega) (by omega))
        case measure => simp [intOf]
    by_cases h6 : i = 6
    · subst h6
      rw [show ((6 : Nat) : Int) = 6 from rfl]
      have hb := and_bit' (Z 0) z0.1 z0.2 6 (by omega)
      cases hbit : bit (Z 0) 6
      · rw [hbit] at hb
        have hb' : (bits BinOp.and .u8 (Z 0) 64 == 0) = true := hb
        have E1 : Hid (offTo Z 7 = offTo Z 6) := off_clear hbit
        have E2 : Hid (sizeTo Z 7 = sizeTo Z 6) := size_clear hbit
        have E3 : Hid (cnt (Z 0) 7 = cnt (Z 0) 6) := cnt_clear hbit
        clear hb hbit OB SB cl
        go_wp2
        go_quiet (fail)
        go_wp2
        go_roundw
        case rel => exact ⟨7, by omega, by rw [E1.out], by rw [E2.out], by rw [E3.out], by go_num, _, (by first | rfl | exact World.drewN_drewN _ _ _)⟩
        case measure => simp [intOf]
      · rw [hbit] at hb
        have hb' : (bits BinOp.and .u8 (Z 0) 64 == 0) = false := hb
        obtain ⟨p, hp⟩ : ∃ p, p = 1 + cnt (Z 0) 6 := ⟨_, rfl⟩
        have hpn : p < n := by
          have h1 := HN.out
          have h2 := cnt_mono (Z 0) (show 6 + 1 ≤ 7 by omega)
          have h3 := cnt_set hbit
          omega
        have gp := HC.out p hpn
        have zp := HZ.out p
        have E1 : Hid (sizeTo Z 7 = sizeTo Z 6 + Z p * 65536) := (by rw [hp]; simpa using size_set (i := 6) hbit (by omega) : sizeTo Z 7 = sizeTo Z 6 + Z p * 65536)
        have E2 : Hid (offTo Z 7 = offTo Z 6) := off_same (by omega)
        have E3 : Hid (1 + cnt (Z 0) 7 = p + 1) := (by rw [hp, cnt_set hbit]; omega : 1 + cnt (Z 0) 7 = p + 1)
        have hpz : (p : Int) < (n : Int) := by omega
        rw [← hp]
        have A0 : 0 ≤ sizeTo Z 6 ∧ sizeTo Z 6 < 65536 := by omega
        obtain ⟨A1, A2⟩ := A0
        clear hb hbit OB SB cl hp
        go_wp2
        go_quiet (fail)
        go_wp2
        go_roundw
        case rel =>
          refine ⟨7, by omega, ?_, ?_, by rw [E3.out]; go_num, by go_num, _, (by first | rfl | exact World.drewN_drewN _ _ _)⟩
          · rw [E2.out]
          · rw [E1.out]; exact ret_u64 rfl (u64_or16 _ _ (by omega) (by omega) (by omega) (by omega) (by omega))
        case measure => simp [intOf]
    omega

theorem zzreadcopy_any (a : Option Addr) (n c : Nat) (Z : Nat → Int) (w : World) (hS : Ints .u8 w a n Z) (hz : ∀ i, 0 ≤ Z i ∧ Z i ≤ 255) (hn : 1 + cnt (Z 0) 7 ≤ n) (hm : n ≤ 1048576) :
    Calls Try.prog 12 #[.slice a n c] w (CopyIs w Z) := by
  go_enter Try.func12, Try.ntmps12
  go_wp2_with fail
  refine (readcopy_any a n c Z w hS hz hn hm).mono ?_
  rintro e w' ⟨rfl, m, rfl⟩
  go_wp2
  go_ret2
  exact ⟨rfl, m, rfl⟩
end Go.Proofs.Qxb6605551a
