import Derived.Test.Qxb6605503aBase
import Derived.Test.Qxb6605503aOrder
namespace Go.Proofs.Qxb6605503a
open Go.RowKit

/-- Some bool; the world has drawn, no more; where it is true, B holds. -/
def BoolD (w : World) (B : Prop) (e : Ending) (w' : World) : Prop := ∃ r : Bool, e = .returned (.bool r) ∧ (∃ m, w' = w.drewN m) ∧ (r = true → B)

set_option maxHeartbeats 400000 in
theorem sorted_any (a : Option Addr) (n c : Nat) (S : Nat → ByteArray) (w : World) (hS : Strs w a n S) (hn : n ≤ 1048576) :
    Calls Try.prog 14 #[.slice a n c] w (BoolD w (Sorted n S)) := by
  go_enter Try.func14, Try.ntmps14
  go_wp2
  go_loopw [3] (fun i wr => ∃ k : Nat, k ≤ n ∧ i = .int .i64 (k + 1) ∧ (∀ j, j < k → j + 1 < n → ltS (S j) (S (j + 1)) = true) ∧ ∃ q, wr = w.drewN q) (fun i _ => n + 1 - (intOf i).toNat)
  case atStart => exact ⟨0, Nat.zero_le _, rfl, fun j hj => absurd hj (Nat.not_lt_zero _), 0, rfl⟩
  case round =>
    obtain ⟨k, hk, rfl, hs, q, rfl⟩ := hrel
    have HS : Hid (∀ j, j < k → j + 1 < n → ltS (S j) (S (j + 1)) = true) := hs
    clear hs
    by_cases hlt : k + 1 < n
    · obtain ⟨b, off, rfl, hc⟩ := hS (by omega)
      have h1 := hc k (by omega)
      have h2 := hc (k + 1) hlt
      clear hc
      have hkz : (k : Int) + 1 < (n : Int) := by omega
      have hkz2 : (k : Int) < (n : Int) := by omega
      cases hl : Op.bytesLess (S k).toList (S (k + 1)).toList
      · go_wp2
        go_quiet (fail)
        go_wp2
        go_ret
        exact ⟨false, rfl, ⟨_, World.drewN_drewN _ _ _⟩, fun h => by cases h⟩
      · go_wp2
        go_quiet (fail)
        go_wp2
        go_roundw
        case rel =>
          refine ⟨k + 1, by omega, by go_num, fun j hj hj2 => ?_, _, rfl⟩
          rcases Nat.lt_or_ge j k with h | h
          · exact HS.out j h hj2
          · obtain rfl : j = k := by omega
            exact hl
        case measure => simp [intOf]; omega
    · go_wp2
      go_ret
      exact ⟨true, rfl, ⟨_, rfl⟩, fun _ j hj => HS.out j (by omega) hj⟩

/-- The place of x among the hosts, or -1. -/
def FindIs (w : World) (n : Nat) (S : Nat → ByteArray) (x : ByteArray) (e : Ending) (w' : World) : Prop :=
  w' = w ∧ ((e = .returned (.int .i64 (-1)) ∧ ∀ i, i < n → S i ≠ x) ∨ ∃ i : Nat, e = .returned (.int .i64 i) ∧ i < n ∧ S i = x)

theorem find_lo {n S x} {m : Nat} (hs : Sorted n S) (hm : m < n) (hx : ltS (S m) x = true) : ∀ i, i < m + 1 → ltS (S i) x = true := by
  intro i hi
  rcases Nat.lt_or_ge i m with h | h
  · exact ltS_trans (hs.lt' h hm) hx
  · obtain rfl : i = m := by omega
    exact hx
theorem find_hi {n S x} {m : Nat} (hs : Sorted n S) (hx : ltS (S m) x = false) : ∀ i, m ≤ i → i < n → ltS (S i) x = false := by
  intro i hi hin
  rcases Nat.lt_or_ge m i with h | h
  · cases h' : ltS (S i) x
    · rfl
    · rw [ltS_trans (hs.lt' h hin) h'] at hx; cases hx
  · obtain rfl : i = m := by omega
    exact hx
theorem find_none {n S x} {l : Nat} (hs : Sorted n S) (h1 : ∀ i, i < l → ltS (S i) x = true) (h2 : ∀ i, l ≤ i → i < n → ltS (S i) x = false) (h3 : l < n → S l ≠ x) : ∀ i, i < n → S i ≠ x := by
  intro i hi e
  rcases Nat.lt_trichotomy i l with h | h | h
  · exact ltS_ne (h1 i h) e
  · subst h; exact h3 hi e
  · have := hs.lt' h hi
    rw [e] at this
    rw [h2 l (Nat.le_refl _) (by omega)] at this
    cases this

set_option maxHeartbeats 400000 in
theorem find_any (a : Option Addr) (n c : Nat) (S : Nat → ByteArray) (x : ByteArray) (w : World) (hS : Strs w a n S) (hn : n ≤ 1048576) (hs : Sorted n S) :
    Calls Try.prog 17 #[.slice a n c, .string x] w (FindIs w n S x) := by
  have HSO : Hid (Sorted n S) := hs
  clear hs
  go_enter Try.func17, Try.ntmps17
  go_wp2
  go_loop [5, 6] (fun lo hi => ∃ l h : Nat, l ≤ h ∧ h ≤ n ∧ lo = .int .i64 l ∧ hi = .int .i64 h ∧ (∀ i, i < l → ltS (S i) x = true) ∧ (∀ i, h ≤ i → i < n → ltS (S i) x = false)) (fun lo hi => (intOf hi - intOf lo).toNat)
  case atStart => exact ⟨0, n, Nat.zero_le _, Nat.le_refl _, rfl, rfl, fun j hj => absurd hj (Nat.not_lt_zero _), fun i h1 h2 => by omega⟩
  case round =>
    obtain ⟨l, h, hlh, hhn, rfl, rfl, r1, r2⟩ := hrel
    have H1 : Hid (∀ i, i < l → ltS (S i) x = true) := r1
    have H2 : Hid (∀ i, h ≤ i → i < n → ltS (S i) x = false) := r2
    clear r1 r2
    by_cases hlt : l < h
    · obtain ⟨b, off, rfl, hc⟩ := hS (by omega)
      have h1 := hc (l + (h - l) / 2) (by omega)
      clear hc
      cases hl : Op.bytesLess (S (l + (h - l) / 2)).toList x.toList
      · go_wp2
        go_round
        case rel => exact ⟨l, l + (h - l) / 2, by omega, by omega, rfl, by go_num, H1.out, find_hi HSO.out hl⟩
        case measure => simp [intOf]; omega
      · go_wp2
        go_round
        case rel => exact ⟨l + (h - l) / 2 + 1, h, by omega, by omega, by go_num, rfl, find_lo HSO.out (by omega) hl, H2.out⟩
        case measure => simp [intOf]; omega
    · obtain rfl : l = h := by omega
      by_cases hln : l < n
      · obtain ⟨b, off, rfl, hc⟩ := hS (by omega)
        have h1 := hc l hln
        clear hc
        by_cases hx : S l = x
        · have e1 : ((S l).toList == x.toList) = true := by rw [hx]; exact beq_self_eq_true _
          have HX : Hid (S l = x) := hx
          clear hx
          go_wp2
          go_ret
          exact ⟨rfl, .inr ⟨l, rfl, hln, HX.out⟩⟩
        · have e1 : ((S l).toList == x.toList) = false := beq_eq_false_iff_ne.2 (fun h => hx (toList_inj h))
          go_wp2
          go_ret
          exact ⟨rfl, .inl ⟨rfl, find_none HSO.out H1.out H2.out (fun _ => hx)⟩⟩
      · have hd : decide ((l : Int) < (n : Int)) = false := by simp; omega
        go_wp2
        go_ret
        exact ⟨rfl, .inl ⟨rfl, find_none HSO.out H1.out H2.out (fun h => absurd h hln)⟩⟩
end Go.Proofs.Qxb6605503a
