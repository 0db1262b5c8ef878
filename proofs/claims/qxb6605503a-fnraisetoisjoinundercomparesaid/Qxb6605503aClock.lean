import Derived.Test.Qxb6605503aEnts
import Derived.Test.Qxb6605503aFind
import Derived.Test.Qxb6605503aCmp
namespace Go.Proofs.Qxb6605503a
open Go.RowKit

set_option maxHeartbeats 400000 in
theorem shaped_any (a1 a2 : Option Addr) (n c1 n2 c2 : Nat) (S : Nat → ByteArray) (C : Nat → Int) (w : World) (h1 : Strs w a1 n S) (h2 : Cnts w a2 n2 C) (hn : n ≤ 1048576) (hn2 : n2 ≤ 1048576) :
    Calls Try.prog 19 #[.slice a1 n c1, .slice a2 n2 c2] w (BoolD w (Sorted n S ∧ ∀ i, i < n2 → C i ≠ 0)) := by
  go_enter Try.func19, Try.ntmps19
  go_wp2_with fail
  refine (sorted_any a1 n c1 S w h1 hn).mono ?_
  rintro e w' ⟨r, rfl, ⟨q, rfl⟩, hs⟩
  cases r with
  | false =>
    go_wp2
    go_ret
    exact ⟨false, rfl, ⟨q, rfl⟩, fun h => by cases h⟩
  | true =>
    have HS : Hid (Sorted n S) := hs rfl
    clear hs
    go_wp2
    go_loop [5] (fun i => ∃ k : Nat, k ≤ n2 ∧ i = .int .i64 k ∧ ∀ j, j < k → C j ≠ 0) (fun i => n2 - (intOf i).toNat)
    case atStart => exact ⟨0, Nat.zero_le _, rfl, fun j hj => by omega⟩
    case round =>
      obtain ⟨k, hk, rfl, hr⟩ := hrel
      have HR : Hid (∀ j, j < k → C j ≠ 0) := hr
      clear hr
      by_cases hlt : k < n2
      · obtain ⟨b, off, rfl, hc⟩ := h2 (by omega)
        have g := hc k hlt
        clear hc
        by_cases h0 : C k = 0
        · have h0' : (C k == 0) = true := beq_iff_eq.2 h0
          clear h0
          go_wp2
          go_ret
          exact ⟨false, rfl, ⟨q, rfl⟩, fun h => by cases h⟩
        · have h0' : (C k == 0) = false := beq_eq_false_iff_ne.2 h0
          have H0 : Hid (C k ≠ 0) := h0
          clear h0
          go_wp2
          go_round
          case rel =>
            refine ⟨k + 1, by omega, by go_num, fun j hj => ?_⟩
            rcases Nat.lt_or_ge j k with h | h
            · exact HR.out j h
            · obtain rfl : j = k := by omega
              exact H0.out
          case measure => simp [intOf]; omega
      · go_wp2
        go_ret
        exact ⟨true, rfl, ⟨q, rfl⟩, fun _ => ⟨HS.out, fun i hi => HR.out i (by omega)⟩⟩

/-- A clock handed back. -/
def GotClock (w : World) (n : Nat) (S : Nat → ByteArray) (C : Nat → Int) (e : Ending) (w' : World) : Prop :=
  ∃ a' c', e = .returned (.agg #[.slice a' n c']) ∧ Ents w' a' n S C ∧ n ≤ c' ∧ Below w.heap.size w w'

set_option maxHeartbeats 400000 in
theorem zzclock_any (a1 a2 : Option Addr) (n c1 c2 : Nat) (S : Nat → ByteArray) (C : Nat → Int) (w : World) (hS : Strs w a1 n S) (hC : Cnts w a2 n C) (ha : a1 = none → n = 0) (hn : n ≤ 1048576) :
    Calls Try.prog 20 #[.slice a1 n c1, .slice a2 n c2] w (GotClock w n S C) := by
  have hB0 : Below w.heap.size w (w.alloc (Obj.cells #[.slice none 0 0] 37)) := (Below.refl _ _).alloc (Nat.le_refl _) _
  have x0 : (w.alloc (Obj.cells #[.slice none 0 0] 37)).cell? ⟨w.heap.size, 0, none⟩ = some (.slice none 0 0) := by simp [go_sem]
  have f0 : (w.alloc (Obj.cells #[.slice none 0 0] 37)).frozen? ⟨w.heap.size, 0, none⟩ = false := by simp [go_sem]
  have hz : (w.alloc (Obj.cells #[.slice none 0 0] 37)).heap.size = w.heap.size + 1 := by simp
  go_enter Try.func20, Try.ntmps20
  go_wp2_with fail
  generalize w.alloc (Obj.cells #[.slice none 0 0] 37) = wA at *
  refine (entries_any a1 a2 n c1 c2 S C wA (hS.below hB0) (hC.below hB0) ha hn).mono ?_
  rintro e w1 ⟨a', c', rfl, hE, hc, hb⟩
  have x1 : w1.cell? ⟨w.heap.size, 0, none⟩ = some (.slice none 0 0) := by rw [← x0]; exact hb.cell (by show w.heap.size < wA.heap.size; omega)
  have f1 : w1.frozen? ⟨w.heap.size, 0, none⟩ = false := by rw [← f0]; exact hb.frozen (by show w.heap.size < wA.heap.size; omega)
  have hzz : w.heap.size < w1.heap.size := by have := hb.size; omega
  have HE : Hid (Ents (w1.setCell ⟨w.heap.size, 0, none⟩ (.slice a' n c')) a' n S C) := by
    rcases hE with rfl | ⟨b, hb', rfl, _, hr⟩
    · intro h; omega
    · exact ents_of_row (hr.setOther (by show b ≠ w.heap.size; omega) _)
  have HB : Hid (Below w.heap.size w (w1.setCell ⟨w.heap.size, 0, none⟩ (.slice a' n c'))) := (hB0.trans (hb.mono (by omega))).setCell (Nat.le_refl _) _
  have x2 : (w1.setCell ⟨w.heap.size, 0, none⟩ (.slice a' n c')).cell? ⟨w.heap.size, 0, none⟩ = some (.slice a' n c') := by
    simp [go_sem, x1]
  clear hE hB0 hS hC x0 f0 hz hb
  go_wp2
  exact bodyPost_ret (v := .agg #[.slice a' n c']) (by simp [results, Try.results20, go_sem, x2]) rfl ⟨a', c', rfl, HE.out, hc, HB.out⟩
theorem relation_any (b a : Bool) (w : World) : Calls Try.prog 30 #[.bool b, .bool a] w fun e w' => e = .returned (.int .i64 (relCode b a)) ∧ w' = w := by
  cases b <;> cases a
  all_goals
    go_enter Try.func30, Try.ntmps30
    go_wp2
    go_ret
    exact ⟨rfl, rfl⟩

/-- The converse relation. -/
def conv (r : Int) : Int := if r = 1 then 2 else if r = 2 then 1 else r
theorem converse_any (r : Int) (h : r = 1 ∨ r = 2 ∨ r = 3 ∨ r = 4) (w : World) : Calls Try.prog 25 #[.int .i64 r] w fun e w' => e = .returned (.int .i64 (conv r)) ∧ w' = w := by
  rcases h with rfl | rfl | rfl | rfl
  all_goals
    go_enter Try.func25, Try.ntmps25
    go_wp2
    go_ret
    exact ⟨rfl, rfl⟩
end Go.Proofs.Qxb6605503a
