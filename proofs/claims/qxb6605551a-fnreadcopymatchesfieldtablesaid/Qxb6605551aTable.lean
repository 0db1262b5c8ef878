import Derived.Test.Qxb6605551aCopy
namespace Go.Proofs.Qxb6605551a
open Go.RowKit Go.Lib

theorem and127' (f : Int) (h0 : 0 ≤ f) (h1 : f ≤ 255) (i : Nat) (hi : i < 7) : (bits BinOp.and .u8 (bits BinOp.and .u8 f 127 / 2 ^ i) 1 == 1) = bit f i := by
  have := and127 ⟨f.toNat, by omega⟩ ⟨i, hi⟩
  simpa [Int.toNat_of_nonneg h0] using this
theorem and127_bd' (f : Int) (h0 : 0 ≤ f) (h1 : f ≤ 255) : 0 ≤ bits BinOp.and .u8 f 127 ∧ bits BinOp.and .u8 f 127 ≤ 127 := by
  have := and127_bd ⟨f.toNat, by omega⟩
  simpa [Int.toNat_of_nonneg h0] using this
theorem field_bd {Z : Nat → Int} (hz : ∀ i, 0 ≤ Z i ∧ Z i ≤ 255) (i : Nat) : 0 ≤ field Z i ∧ field Z i ≤ 255 := by
  unfold field; split; exact hz _; omega
theorem field_set {Z : Nat → Int} {i : Nat} (h : bit (Z 0) i = true) : field Z i = Z (1 + cnt (Z 0) i) := by rw [field, h]; rfl
theorem field_clear {Z : Nat → Int} {i : Nat} (h : bit (Z 0) i = false) : field Z i = 0 := by rw [field, h]; rfl

theorem want_off {Z : Nat → Int} (hz : ∀ i, 0 ≤ Z i ∧ Z i ≤ 255) : bits BinOp.or .u64 (bits BinOp.or .u64 (bits BinOp.or .u64 (field Z 0) (field Z 1 * 256)) (field Z 2 * 65536)) (field Z 3 * 16777216) = offTo Z 7 := by
  have f0 := field_bd hz 0; have f1 := field_bd hz 1; have f2 := field_bd hz 2; have f3 := field_bd hz 3
  simp (disch := omega) only [u64_or8, u64_or16, u64_or24]
  simp [offTo]
theorem want_size {Z : Nat → Int} (hz : ∀ i, 0 ≤ Z i ∧ Z i ≤ 255) : bits BinOp.or .u64 (bits BinOp.or .u64 (field Z 4) (field Z 5 * 256)) (field Z 6 * 65536) = sizeTo Z 7 := by
  have f4 := field_bd hz 4; have f5 := field_bd hz 5; have f6 := field_bd hz 6
  simp (disch := omega) only [u64_or8, u64_or16]
  simp [sizeTo]

theorem fields_made (w : World) : (w.alloc (.cells #[.int .u64 0, .int .u64 0, .int .u64 0, .int .u64 0, .int .u64 0, .int .u64 0, .int .u64 0] 34)).rowIs w.heap.size 34 7 (fun _ => .int .u64 0) := by
  refine ⟨_, Deep.blk_alloc_new _ _, rfl, fun i hi => ?_⟩
  rcases (by omega : i = 0 ∨ i = 1 ∨ i = 2 ∨ i = 3 ∨ i = 4 ∨ i = 5 ∨ i = 6) with e | e | e | e | e | e | e <;> subst e <;> rfl

set_option maxHeartbeats 4000000 in
set_option maxRecDepth 100000 in
theorem table_any (a : Option Addr) (n c : Nat) (Z : Nat → Int) (w : World) (hS : Ints .u8 w a n Z) (ha : a = none → n = 0) (hz : ∀ i, 0 ≤ Z i ∧ Z i ≤ 255) (hm : n ≤ maxLen) :
    Calls Try.prog 4 #[.slice a n c] w fun e w' => e = .returned (.bool true) ∧ Below w.heap.size w w' := by
  have HZ : Hid (∀ i, 0 ≤ Z i ∧ Z i ≤ 255) := hz
  clear hz
  go_enter Try.func4, Try.ntmps4
  go_wp2_with fail
  refine (bytes10 a n c w hm).mono ?_
  rintro e w' ⟨r, rfl, hw', hr⟩
  subst w'
  cases r with
  | false =>
    go_wp2
    go_ret
    exact ⟨rfl, Below.refl _ _⟩
  | true =>
  have hm' := hr rfl
  clear hr hm
  by_cases h1 : (65536 : Int) < n
  · go_wp2
    go_ret
    exact ⟨rfl, Below.refl _ _⟩
  by_cases h2 : n = 0
  · subst h2
    go_wp2
    go_ret
    exact ⟨rfl, Below.refl _ _⟩
  have hS' := hS
  obtain ⟨b, off, rfl, hc⟩ := hS (by omega)
  have n0 : (0 : Int) < (n : Int) := by omega
  have n0' : 0 < n := by omega
  have n1' : ((n : Int) == 0) = false := beq_eq_false_iff_ne.2 (by omega)
  have g0 : w.cell? ⟨b, off, none⟩ = some (.int .u8 (Z 0)) := by simpa using hc 0 (by omega)
  have z0 := HZ.out 0
  have HB : Hid (∀ i, i < 7 → (bits BinOp.and .u8 (bits BinOp.and .u8 (Z 0) 127 / 2 ^ i) 1 == 1) = bit (Z 0) i) := fun i hi => and127' (Z 0) z0.1 z0.2 i hi
  have hfb := and127_bd' (Z 0) z0.1 z0.2
  clear hc hS
  go_wp2
  generalize bits BinOp.and .u8 (Z 0) 127 = fl at *
  obtain ⟨hf0, hf1⟩ := hfb
  go_loop [4, 5] (fun v4 v5 => ∃ j : Nat, j ≤ 7 ∧ v4 = .int .i64 (cnt (Z 0) j) ∧ v5 = .int .i64 j) (fun _ v5 => 7 - (intOf v5).toNat)
  case atStart => exact ⟨0, by omega, rfl, rfl⟩
  case round =>
    obtain ⟨j, hj, rfl, rfl⟩ := hrel
    have cl := cnt_le (Z 0) j
    by_cases h0 : j = 0
    · subst h0
      rw [show ((0 : Nat) : Int) = 0 from rfl]
      have hb : (bits BinOp.and .u8 (fl) 1 == 1) = bit (Z 0) 0 := by simpa using HB.out 0 (by omega)
      cases hbit : bit (Z 0) 0
      · rw [hbit] at hb
        have E : Hid (cnt (Z 0) 1 = cnt (Z 0) 0) := cnt_clear hbit
        clear hbit
        go_wp2
        go_round
        case rel => exact ⟨1, by omega, by rw [E.out], by go_num⟩
        case measure => simp [intOf]
      · rw [hbit] at hb
        have E : Hid (cnt (Z 0) 1 = cnt (Z 0) 0 + 1) := cnt_set hbit
        clear hbit
        go_wp2
        go_round
        case rel => exact ⟨1, by omega, by rw [E.out]; go_num, by go_num⟩
        case measure => simp [intOf]
    by_cases h1 : j = 1
    · subst h1
      rw [show ((1 : Nat) : Int) = 1 from rfl]
      have hb : (bits BinOp.and .u8 (fl / 2) 1 == 1) = bit (Z 0) 1 := by simpa using HB.out 1 (by omega)
      cases hbit : bit (Z 0) 1
      · rw [hbit] at hb
        have E : Hid (cnt (Z 0) 2 = cnt (Z 0) 1) := cnt_clear hbit
        clear hbit
        go_wp2
        go_round
        case rel => exact ⟨2, by omega, by rw [E.out], by go_num⟩
        case measure => simp [intOf]
      · rw [hbit] at hb
        have E : Hid (cnt (Z 0) 2 = cnt (Z 0) 1 + 1) := cnt_set hbit
        clear hbit
        go_wp2
        go_round
        case rel => exact ⟨2, by omega, by rw [E.out]; go_num, by go_num⟩
        case measure => simp [intOf]
    by_cases h2 : j = 2
    · subst h2
      rw [show ((2 : Nat) : Int) = 2 from rfl]
      have hb : (bits BinOp.and .u8 (fl / 4) 1 == 1) = bit (Z 0) 2 := by simpa using HB.out 2 (by omega)
      cases hbit : bit (Z 0) 2
      · rw [hbit] at hb
        have E : Hid (cnt (Z 0) 3 = cnt (Z 0) 2) := cnt_clear hbit
        clear hbit
        go_wp2
        go_round
        case rel => exact ⟨3, by omega, by rw [E.out], by go_num⟩
        case measure => simp [intOf]
      · rw [hbit] at hb
        have E : Hid (cnt (Z 0) 3 = cnt (Z 0) 2 + 1) := cnt_set hbit
        clear hbit
        go_wp2
        go_round
        case rel => exact ⟨3, by omega, by rw [E.out]; go_num, by go_num⟩
        case measure => simp [intOf]
    by_cases h3 : j = 3
    · subst h3
      rw [show ((3 : Nat) : Int) = 3 from rfl]
      have hb : (bits BinOp.and .u8 (fl / 8) 1 == 1) = bit (Z 0) 3 := by simpa using HB.out 3 (by omega)
      cases hbit : bit (Z 0) 3
      · rw [hbit] at hb
        have E : Hid (cnt (Z 0) 4 = cnt (Z 0) 3) := cnt_clear hbit
        clear hbit
        go_wp2
        go_round
        case rel => exact ⟨4, by omega, by rw [E.out], by go_num⟩
        case measure => simp [intOf]
      · rw [hbit] at hb
        have E : Hid (cnt (Z 0) 4 = cnt (Z 0) 3 + 1) := cnt_set hbit
        clear hbit
        go_wp2
        go_round
        case rel => exact ⟨4, by omega, by rw [E.out]; go_num, by go_num⟩
        case measure => simp [intOf]
    by_cases h4 : j = 4
    · subst h4
      rw [show ((4 : Nat) : Int) = 4 from rfl]
      have hb : (bits BinOp.and .u8 (fl / 16) 1 == 1) = bit (Z 0) 4 := by simpa using HB.out 4 (by omega)
      cases hbit : bit (Z 0) 4
      · rw [hbit] at hb
        have E : Hid (cnt (Z 0) 5 = cnt (Z 0) 4) := cnt_clear hbit
        clear hbit
        go_wp2
        go_round
        case rel => exact ⟨5, by omega, by rw [E.out], by go_num⟩
        case measure => simp [intOf]
      · rw [hbit] at hb
        have E : Hid (cnt (Z 0) 5 = cnt (Z 0) 4 + 1) := cnt_set hbit
        clear hbit
        go_wp2
        go_round
        case rel => exact ⟨5, by omega, by rw [E.out]; go_num, by go_num⟩
        case measure => simp [intOf]
    by_cases h5 : j = 5
    · subst h5
      rw [show ((5 : Nat) : Int) = 5 from rfl]
      have hb : (bits BinOp.and .u8 (fl / 32) 1 == 1) = bit (Z 0) 5 := by simpa using HB.out 5 (by omega)
      cases hbit : bit (Z 0) 5
      · rw [hbit] at hb
        have E : Hid (cnt (Z 0) 6 = cnt (Z 0) 5) := cnt_clear hbit
        clear hbit
        go_wp2
        go_round
        case rel => exact ⟨6, by omega, by rw [E.out], by go_num⟩
        case measure => simp [intOf]
      · rw [hbit] at hb
        have E : Hid (cnt (Z 0) 6 = cnt (Z 0) 5 + 1) := cnt_set hbit
        clear hbit
        go_wp2
        go_round
        case rel => exact ⟨6, by omega, by rw [E.out]; go_num, by go_num⟩
        case measure => simp [intOf]
    by_cases h6 : j = 6
    · subst h6
      rw [show ((6 : Nat) : Int) = 6 from rfl]
      have hb : (bits BinOp.and .u8 (fl / 64) 1 == 1) = bit (Z 0) 6 := by simpa using HB.out 6 (by omega)
      cases hbit : bit (Z 0) 6
      · rw [hbit] at hb
        have E : Hid (cnt (Z 0) 7 = cnt (Z 0) 6) := cnt_clear hbit
        clear hbit
        go_wp2
        go_round
        case rel => exact ⟨7, by omega, by rw [E.out], by go_num⟩
        case measure => simp [intOf]
      · rw [hbit] at hb
        have E : Hid (cnt (Z 0) 7 = cnt (Z 0) 6 + 1) := cnt_set hbit
        clear hbit
        go_wp2
        go_round
        case rel => exact ⟨7, by omega, by rw [E.out]; go_num, by go_num⟩
        case measure => simp [intOf]
    obtain rfl : j = 7 := by omega
    rw [show ((7 : Nat) : Int) = 7 from rfl]
    by_cases hlen : n < 1 + cnt (Z 0) 7
    · have hlen' : (n : Int) < 1 + (cnt (Z 0) 7 : Int) := by omega
      go_wp2
      go_ret
      exact ⟨rfl, Below.refl _ _⟩
    have hlen' : ¬ (n : Int) < 1 + (cnt (Z 0) 7 : Int) := by omega
    go_wp2_with fail
    refine (clone_bytes _ n c Z w hS' ha (by omega)).mono ?_
    rintro e w1 ⟨a1, c1, rfl, s1, _, hc1, b1⟩
    obtain ⟨b2, o2, rfl, hc2⟩ := s1 (by omega)
    have HC : Hid (∀ i, i < n → w1.cell? ⟨b2, o2 + i, none⟩ = some (.int .u8 (Z i))) := hc2
    clear hc2
    go_wp2
    go_loopw [7, 8] (fun v7 v8 wr => ∃ j : Nat, j ≤ 7 ∧ v7 = .int .i64 (1 + cnt (Z 0) j : Nat) ∧ v8 = .int .i64 ((j : Int) - 1) ∧ Below w1.heap.size w1 wr ∧ wr.rowIs w1.heap.size 34 7 (fun x => .int .u64 (if j ≤ x then field Z x else 0))) (fun _ v8 _ => (intOf v8 + 1).toNat)
    case atStart => exact ⟨7, by omega, by go_num, rfl, (Below.refl _ _).alloc (Nat.le_refl _) _, (fields_made w1).congr (fun x hx => by rw [if_neg (by omega)])⟩
    case round =>
      obtain ⟨j, hj', rfl, rfl, hb1, hr1⟩ := hrel
      have cl := cnt_le (Z 0) j
      by_cases h7 : j = 7
      · subst h7
        rw [show ((7 : Nat) : Int) - 1 = 6 from rfl]
        have hb : (bits BinOp.and .u8 (fl / 64) 1 == 1) = bit (Z 0) 6 := by simpa using HB.out 6 (by omega)
        cases hbit : bit (Z 0) 6
        · rw [hbit] at hb
          have E : Hid (cnt (Z 0) 7 = cnt (Z 0) 6) := cnt_clear hbit
          have E2 : Hid (field Z 6 = 0) := field_clear hbit
          clear hbit
          go_wp2
          go_roundw
          case rel =>
            refine ⟨6, by omega, by rw [E.out], by go_num, hb1, hr1.congr (fun x _ => ?_)⟩
            by_cases e : x = 6
            · subst e; simp [E2.out]
            · have : (7 ≤ x) = (6 ≤ x) := by simp; omega
              simp [this]
          case measure => simp [intOf]
        · rw [hbit] at hb
          obtain ⟨p, hp⟩ : ∃ p, p = 1 + cnt (Z 0) 6 := ⟨_, rfl⟩
          have hpn : p < n := by
            have h2 := cnt_mono (Z 0) (show 6 + 1 ≤ 7 by omega)
            have h3 := cnt_set hbit
            omega
          have gp := HC.out p hpn
          have gp2 : wr.cell? ⟨b2, o2 + p, none⟩ = some (.int .u8 (Z p)) := by rw [← gp]; exact hb1.cell (World.block_lt_of_cell? _ _ gp)
          have zp := HZ.out p
          have E : Hid (1 + cnt (Z 0) 6 = p) := hp.symm
          have E2 : Hid (field Z 6 = Z p) := (by rw [hp]; exact field_set hbit : field Z 6 = Z p)
          have E3 : (1 + cnt (Z 0) 7 : Nat) = p + 1 := by rw [hp, cnt_set hbit]; omega
          have hpz : (p : Int) < (n : Int) := by omega
          have st := hr1.cell (i := 6) (by omega)
          have sf := hr1.frozen 6
          rw [show ((1 + cnt (Z 0) 7 : Nat) : Int) = (p : Int) + 1 from by rw [E3]; omega]
          clear hbit hp E3 gp
          go_wp2
          go_roundw
          case rel =>
            refine ⟨6, by omega, by rw [E.out], by go_num, hb1.setCell (Nat.le_refl _) _, (hr1.set 6 _).congr (fun x _ => ?_)⟩
            by_cases e : x = 6
            · subst e; simp [E2.out]
            · have : (7 ≤ x) = (6 ≤ x) := by simp; omega
              simp [e, this]
          case measure => simp [intOf]
      by_cases h6 : j = 6
      · subst h6
        rw [show ((6 : Nat) : Int) - 1 = 5 from rfl]
        have hb : (bits BinOp.and .u8 (fl / 32) 1 == 1) = bit (Z 0) 5 := by simpa using HB.out 5 (by omega)
        cases hbit : bit (Z 0) 5
        · rw [hbit] at hb
          have E : Hid (cnt (Z 0) 6 = cnt (Z 0) 5) := cnt_clear hbit
          have E2 : Hid (field Z 5 = 0) := field_clear hbit
          clear hbit
          go_wp2
          go_roundw
          case rel =>
            refine ⟨5, by omega, by rw [E.out], by go_num, hb1, hr1.congr (fun x _ => ?_)⟩
            by_cases e : x = 5
            · subst e; simp [E2.out]
            · have : (6 ≤ x) = (5 ≤ x) := by simp; omega
              simp [this]
          case measure => simp [intOf]
        · rw [hbit] at hb
          obtain ⟨p, hp⟩ : ∃ p, p = 1 + cnt (Z 0) 5 := ⟨_, rfl⟩
          have hpn : p < n := by
            have h2 := cnt_mono (Z 0) (show 5 + 1 ≤ 7 by omega)
            have h3 := cnt_set hbit
            omega
          have gp := HC.out p hpn
          have gp2 : wr.cell? ⟨b2, o2 + p, none⟩ = some (.int .u8 (Z p)) := by rw [← gp]; exact hb1.cell (World.block_lt_of_cell? _ _ gp)
          have zp := HZ.out p
          have E : Hid (1 + cnt (Z 0) 5 = p) := hp.symm
          have E2 : Hid (field Z 5 = Z p) := (by rw [hp]; exact field_set hbit : field Z 5 = Z p)
          have E3 : (1 + cnt (Z 0) 6 : Nat) = p + 1 := by rw [hp, cnt_set hbit]; omega
          have hpz : (p : Int) < (n : Int) := by omega
          have st := hr1.cell (i := 5) (by omega)
          have sf := hr1.frozen 5
          rw [show ((1 + cnt (Z 0) 6 : Nat) : Int) = (p : Int) + 1 from by rw [E3]; omega]
          clear hbit hp E3 gp
          go_wp2
          go_roundw
          case rel =>
            refine ⟨5, by omega, by rw [E.out], by go_num, hb1.setCell (Nat.le_refl _) _, (hr1.set 5 _).congr (fun x _ => ?_)⟩
            by_cases e : x = 5
            · subst e; simp [E2.out]
            · have : (6 ≤ x) = (5 ≤ x) := by simp; omega
              simp [e, this]
          case measure => simp [intOf]
      by_cases h5 : j = 5
      · subst h5
        rw [show ((5 : Nat) : Int) - 1 = 4 from rfl]
        have hb : (bits BinOp.and .u8 (fl / 16) 1 == 1) = bit (Z 0) 4 := by simpa using HB.out 4 (by omega)
        cases hbit : bit (Z 0) 4
        · rw [hbit] at hb
          have E : Hid (cnt (Z 0) 5 = cnt (Z 0) 4) := cnt_clear hbit
          have E2 : Hid (field Z 4 = 0) := field_clear hbit
          clear hbit
          go_wp2
          go_roundw
          case rel =>
            refine ⟨4, by omega, by rw [E.out], by go_num, hb1, hr1.congr (fun x _ => ?_)⟩
            by_cases e : x = 4
            · subst e; simp [E2.out]
            · have : (5 ≤ x) = (4 ≤ x) := by simp; omega
              simp [this]
          case measure => simp [intOf]
        · rw [hbit] at hb
          obtain ⟨p, hp⟩ : ∃ p, p = 1 + cnt (Z 0) 4 := ⟨_, rfl⟩
          have hpn : p < n := by
            have h2 := cnt_mono (Z 0) (show 4 + 1 ≤ 7 by omega)
            have h3 := cnt_set hbit
            omega
          have gp := HC.out p hpn
          have gp2 : wr.cell? ⟨b2, o2 + p, none⟩ = some (.int .u8 (Z p)) := by rw [← gp]; exact hb1.cell (World.block_lt_of_cell? _ _ gp)
          have zp := HZ.out p
          have E : Hid (1 + cnt (Z 0) 4 = p) := hp.symm
          have E2 : Hid (field Z 4 = Z p) := (by rw [hp]; exact field_set hbit : field Z 4 = Z p)
          have E3 : (1 + cnt (Z 0) 5 : Nat) = p + 1 := by rw [hp, cnt_set hbit]; omega
          have hpz : (p : Int) < (n : Int) := by omega
          have st := hr1.cell (i := 4) (by omega)
          have sf := hr1.frozen 4
          rw [show ((1 + cnt (Z 0) 5 : Nat) : Int) = (p : Int) + 1 from by rw [E3]; omega]
          clear hbit hp E3 gp
          go_wp2
          go_roundw
          case rel =>
            refine ⟨4, by omega, by rw [E.out], by go_num, hb1.setCell (Nat.le_refl _) _, (hr1.set 4 _).congr (fun x _ => ?_)⟩
            by_cases e : x = 4
            · subst e; simp [E2.out]
            · have : (5 ≤ x) = (4 ≤ x) := by simp; omega
              simp [e, this]
          case measure => simp [intOf]
      by_cases h4 : j = 4
      · subst h4
        rw [show ((4 : Nat) : Int) - 1 = 3 from rfl]
        have hb : (bits BinOp.and .u8 (fl / 8) 1 == 1) = bit (Z 0) 3 := by simpa using HB.out 3 (by omega)
        cases hbit : bit (Z 0) 3
        · rw [hbit] at hb
          have E : Hid (cnt (Z 0) 4 = cnt (Z 0) 3) := cnt_clear hbit
          have E2 : Hid (field Z 3 = 0) := field_clear hbit
          clear hbit
          go_wp2
          go_roundw
          case rel =>
            refine ⟨3, by omega, by rw [E.out], by go_num, hb1, hr1.congr (fun x _ => ?_)⟩
            by_cases e : x = 3
            · subst e; simp [E2.out]
            · have : (4 ≤ x) = (3 ≤ x) := by simp; omega
              simp [this]
          case measure => simp [intOf]
        · rw [hbit] at hb
          obtain ⟨p, hp⟩ : ∃ p, p = 1 + cnt (Z 0) 3 := ⟨_, rfl⟩
          have hpn : p < n := by
            have h2 := cnt_mono (Z 0) (show 3 + 1 ≤ 7 by omega)
            have h3 := cnt_set hbit
            omega
          have gp := HC.out p hpn
          have gp2 : wr.cell? ⟨b2, o2 + p, none⟩ = some (.int .u8 (Z p)) := by rw [← gp]; exact hb1.cell (World.block_lt_of_cell? _ _ gp)
          have zp := HZ.out p
          have E : Hid (1 + cnt (Z 0) 3 = p) := hp.symm
          have E2 : Hid (field Z 3 = Z p) := (by rw [hp]; exact field_set hbit : field Z 3 = Z p)
          have E3 : (1 + cnt (Z 0) 4 : Nat) = p + 1 := by rw [hp, cnt_set hbit]; omega
          have hpz : (p : Int) < (n : Int) := by omega
          have st := hr1.cell (i := 3) (by omega)
          have sf := hr1.frozen 3
          rw [show ((1 + cnt (Z 0) 4 : Nat) : Int) = (p : Int) + 1 from by rw [E3]; omega]
          clear hbit hp E3 gp
          go_wp2
          go_roundw
          case rel =>
            refine ⟨3, by omega, by rw [E.out], by go_num, hb1.setCell (Nat.le_refl _) _, (hr1.set 3 _).congr (fun x _ => ?_)⟩
            by_cases e : x = 3
            · subst e; simp [E2.out]
            · have : (4 ≤ x) = (3 ≤ x) := by simp; omega
              simp [e, this]
          case measure => simp [intOf]
      by_cases h3 : j = 3
      · subst h3
        rw [show ((3 : Nat) : Int) - 1 = 2 from rfl]
        have hb : (bits BinOp.and .u8 (fl / 4) 1 == 1) = bit (Z 0) 2 := by simpa using HB.out 2 (by omega)
        cases hbit : bit (Z 0) 2
        · rw [hbit] at hb
          have E : Hid (cnt (Z 0) 3 = cnt (Z 0) 2) := cnt_clear hbit
          have E2 : Hid (field Z 2 = 0) := field_clear hbit
          clear hbit
          go_wp2
          go_roundw
          case rel =>
            refine ⟨2, by omega, by rw [E.out], by go_num, hb1, hr1.congr (fun x _ => ?_)⟩
            by_cases e : x = 2
            · subst e; simp [E2.out]
            · have : (3 ≤ x) = (2 ≤ x) := by simp; omega
              simp [this]
          case measure => simp [intOf]
        · rw [hbit] at hb
          obtain ⟨p, hp⟩ : ∃ p, p = 1 + cnt (Z 0) 2 := ⟨_, rfl⟩
          have hpn : p < n := by
            have h2 := cnt_mono (Z 0) (show 2 + 1 ≤ 7 by omega)
            have h3 := cnt_set hbit
            omega
          have gp := HC.out p hpn
          have gp2 : wr.cell? ⟨b2, o2 + p, none⟩ = some (.int .u8 (Z p)) := by rw [← gp]; exact hb1.cell (World.block_lt_of_cell? _ _ gp)
          have zp := HZ.out p
          have E : Hid (1 + cnt (Z 0) 2 = p) := hp.symm
          have E2 : Hid (field Z 2 = Z p) := (by rw [hp]; exact field_set hbit : field Z 2 = Z p)
          have E3 : (1 + cnt (Z 0) 3 : Nat) = p + 1 := by rw [hp, cnt_set hbit]; omega
          have hpz : (p : Int) < (n : Int) := by omega
          have st := hr1.cell (i := 2) (by omega)
          have sf := hr1.frozen 2
          rw [show ((1 + cnt (Z 0) 3 : Nat) : Int) = (p : Int) + 1 from by rw [E3]; omega]
          clear hbit hp E3 gp
          go_wp2
          go_roundw
          case rel =>
            refine ⟨2, by omega, by rw [E.out], by go_num, hb1.setCell (Nat.le_refl _) _, (hr1.set 2 _).congr (fun x _ => ?_)⟩
            by_cases e : x = 2
            · subst e; simp [E2.out]
            · have : (3 ≤ x) = (2 ≤ x) := by simp; omega
              simp [e, this]
          case measure => simp [intOf]
      by_cases h2 : j = 2
      · subst h2
        rw [show ((2 : Nat) : Int) - 1 = 1 from rfl]
        have hb : (bits BinOp.and .u8 (fl / 2) 1 == 1) = bit (Z 0) 1 := by simpa using HB.out 1 (by omega)
        cases hbit : bit (Z 0) 1
        · rw [hbit] at hb
          have E : Hid (cnt (Z 0) 2 = cnt (Z 0) 1) := cnt_clear hbit
          have E2 : Hid (field Z 1 = 0) := field_clear hbit
          clear hbit
          go_wp2
          go_roundw
          case rel =>
            refine ⟨1, by omega, by rw [E.out], by go_num, hb1, hr1.congr (fun x _ => ?_)⟩
            by_cases e : x = 1
            · subst e; simp [E2.out]
            · have : (2 ≤ x) = (1 ≤ x) := by simp; omega
              simp [this]
          case measure => simp [intOf]
        · rw [hbit] at hb
          obtain ⟨p, hp⟩ : ∃ p, p = 1 + cnt (Z 0) 1 := ⟨_, rfl⟩
          have hpn : p < n := by
            have h2 := cnt_mono (Z 0) (show 1 + 1 ≤ 7 by omega)
            have h3 := cnt_set hbit
            omega
          have gp := HC.out p hpn
          have gp2 : wr.cell? ⟨b2, o2 + p, none⟩ = some (.int .u8 (Z p)) := by rw [← gp]; exact hb1.cell (World.block_lt_of_cell? _ _ gp)
          have zp := HZ.out p
          have E : Hid (1 + cnt (Z 0) 1 = p) := hp.symm
          have E2 : Hid (field Z 1 = Z p) := (by rw [hp]; exact field_set hbit : field Z 1 = Z p)
          have E3 : (1 + cnt (Z 0) 2 : Nat) = p + 1 := by rw [hp, cnt_set hbit]; omega
          have hpz : (p : Int) < (n : Int) := by omega
          have st := hr1.cell (i := 1) (by omega)
          have sf := hr1.frozen 1
          rw [show ((1 + cnt (Z 0) 2 : Nat) : Int) = (p : Int) + 1 from by rw [E3]; omega]
          clear hbit hp E3 gp
          go_wp2
          go_roundw
          case rel =>
            refine ⟨1, by omega, by rw [E.out], by go_num, hb1.setCell (Nat.le_refl _) _, (hr1.set 1 _).congr (fun x _ => ?_)⟩
            by_cases e : x = 1
            · subst e; simp [E2.out]
            · have : (2 ≤ x) = (1 ≤ x) := by simp; omega
              simp [e, this]
          case measure => simp [intOf]
      by_cases h1 : j = 1
      · subst h1
        rw [show ((1 : Nat) : Int) - 1 = 0 from rfl]
        have hb : (bits BinOp.and .u8 (fl) 1 == 1) = bit (Z 0) 0 := by simpa using HB.out 0 (by omega)
        cases hbit : bit (Z 0) 0
        · rw [hbit] at hb
          have E : Hid (cnt (Z 0) 1 = cnt (Z 0) 0) := cnt_clear hbit
          have E2 : Hid (field Z 0 = 0) := field_clear hbit
          clear hbit
          go_wp2
          go_roundw
          case rel =>
            refine ⟨0, by omega, by rw [E.out], by go_num, hb1, hr1.congr (fun x _ => ?_)⟩
            by_cases e : x = 0
            · subst e; simp [E2.out]
            · have : (1 ≤ x) = (0 ≤ x) := by simp; omega
              simp [this]
          case measure => simp [intOf]
        · rw [hbit] at hb
          obtain ⟨p, hp⟩ : ∃ p, p = 1 + cnt (Z 0) 0 := ⟨_, rfl⟩
          have hpn : p < n := by
            have h2 := cnt_mono (Z 0) (show 0 + 1 ≤ 7 by omega)
            have h3 := cnt_set hbit
            omega
          have gp := HC.out p hpn
          have gp2 : wr.cell? ⟨b2, o2 + p, none⟩ = some (.int .u8 (Z p)) := by rw [← gp]; exact hb1.cell (World.block_lt_of_cell? _ _ gp)
          have zp := HZ.out p
          have E : Hid (1 + cnt (Z 0) 0 = p) := hp.symm
          have E2 : Hid (field Z 0 = Z p) := (by rw [hp]; exact field_set hbit : field Z 0 = Z p)
          have E3 : (1 + cnt (Z 0) 1 : Nat) = p + 1 := by rw [hp, cnt_set hbit]; omega
          have hpz : (p : Int) < (n : Int) := by omega
          have st := hr1.cell (i := 0) (by omega)
          have sf := hr1.frozen 0
          rw [show ((1 + cnt (Z 0) 1 : Nat) : Int) = (p : Int) + 1 from by rw [E3]; omega]
          clear hbit hp E3 gp
          go_wp2
          go_roundw
          case rel =>
            refine ⟨0, by omega, by rw [E.out], by go_num, hb1.setCell (Nat.le_refl _) _, (hr1.set 0 _).congr (fun x _ => ?_)⟩
            by_cases e : x = 0
            · subst e; simp [E2.out]
            · have : (1 ≤ x) = (0 ≤ x) := by simp; omega
              simp [e, this]
          case measure => simp [intOf]
      obtain rfl : j = 0 := by omega
      rw [show ((0 : Nat) : Int) - 1 = -1 from rfl]
      have k0 := hr1.cell (i := 0) (by omega)
      have k1 := hr1.cell (i := 1) (by omega)
      have k2 := hr1.cell (i := 2) (by omega)
      have k3 := hr1.cell (i := 3) (by omega)
      have k4 := hr1.cell (i := 4) (by omega)
      have k5 := hr1.cell (i := 5) (by omega)
      have k6 := hr1.cell (i := 6) (by omega)
      simp only [Nat.zero_le, if_true] at k0 k1 k2 k3 k4 k5 k6
      have f0 := field_bd HZ.out 0; have f1 := field_bd HZ.out 1; have f2 := field_bd HZ.out 2; have f3 := field_bd HZ.out 3; have f4 := field_bd HZ.out 4; have f5 := field_bd HZ.out 5; have f6 := field_bd HZ.out 6
      have w1' := want_off HZ.out
      have w2' := want_size HZ.out
      have sI : Ints .u8 wr (some ⟨b2, o2, none⟩) n Z := fun _ => ⟨b2, o2, rfl, fun i hi => by rw [← HC.out i hi]; exact hb1.cell (World.block_lt_of_cell? _ _ (HC.out i hi))⟩
      generalize field Z 0 = F0 at *
      generalize field Z 1 = F1 at *
      generalize field Z 2 = F2 at *
      generalize field Z 3 = F3 at *
      generalize field Z 4 = F4 at *
      generalize field Z 5 = F5 at *
      generalize field Z 6 = F6 at *
      by_cases hs0 : sizeTo Z 7 = 0
      · have hs0' : (sizeTo Z 7 == 0) = true := beq_iff_eq.2 hs0
        have HR : Hid (sizeOr (sizeTo Z 7) = 65536) := (by rw [hs0]; rfl : sizeOr (sizeTo Z 7) = 65536)
        clear hs0
        go_wp2_with fail
        refine (zzreadcopy_any _ n c1 Z wr sI HZ.out (by omega) (by omega)).mono ?_
        rintro e w2 ⟨rfl, m, rfl⟩
        rw [HR.out]
        go_wp2
        go_ret
        exact ⟨rfl, (b1.trans (hb1.mono b1.size)).trans (below_drewN _ _ _)⟩
      · have hs0' : (sizeTo Z 7 == 0) = false := beq_eq_false_iff_ne.2 hs0
        have HR : Hid (sizeOr (sizeTo Z 7) = sizeTo Z 7) := (by rw [sizeOr, if_neg hs0] : sizeOr (sizeTo Z 7) = sizeTo Z 7)
        clear hs0
        go_wp2_with fail
        refine (zzreadcopy_any _ n c1 Z wr sI HZ.out (by omega) (by omega)).mono ?_
        rintro e w2 ⟨rfl, m, rfl⟩
        rw [HR.out]
        go_wp2
        go_ret
        exact ⟨rfl, (b1.trans (hb1.mono b1.size)).trans (below_drewN _ _ _)⟩
end Go.Proofs.Qxb6605551a
