import Derived.Test.Qxb6605503aBase
import Derived.RegionTactic
namespace Go.Proofs.Qxb6605503a
open Go.RowKit

/-- The cells of a row of entries. -/
def entF (S : Nat → ByteArray) (C : Nat → Int) (j : Nat) : Value := if j % 2 = 0 then .string (S (j / 2)) else .int .u64 (C (j / 2))
theorem entF_even (S C) (i : Nat) : entF S C (i * 2) = .string (S i) := by
  have h1 : i * 2 % 2 = 0 := by omega
  have h2 : i * 2 / 2 = i := by omega
  simp [entF, h1, h2]
theorem entF_odd (S C) (i : Nat) : entF S C (i * 2 + 1) = .int .u64 (C i) := by
  have h1 : (i * 2 + 1) % 2 = 1 := by omega
  have h2 : (i * 2 + 1) / 2 = i := by omega
  simp [entF, h1, h2]

/-- The call has handed back a slice of n entries of its own. -/
def GotEnts (w : World) (n : Nat) (S : Nat → ByteArray) (C : Nat → Int) (e : Ending) (w' : World) : Prop :=
  ∃ a' c', e = .returned (.slice a' n c') ∧ (n = 0 ∨ ∃ b, w.heap.size ≤ b ∧ a' = some ⟨b, 0, none⟩ ∧ c' = n ∧ w'.rowIs b 47 (n * 2) (entF S C)) ∧ n ≤ c' ∧ Below w.heap.size w w'

theorem ents_of_row {w : World} {b n : Nat} {S C} (h : w.rowIs b 47 (n * 2) (entF S C)) : Ents w (some ⟨b, 0, none⟩) n S C := by
  intro _
  refine ⟨b, 0, rfl, fun i hi => ⟨?_, ?_⟩⟩
  · have := h.cell (i := i * 2) (by omega)
    rw [entF_even] at this
    simpa using this
  · have := h.cell (i := i * 2 + 1) (by omega)
    rw [entF_odd] at this
    simpa using this

theorem run_make_ents (n : Nat) (hn : n ≤ 1048576) (w : World) :
    (Instr.makeSlice 35 (.int .i64 (n : Int)) (.int .i64 (n : Int))).run Try.prog w = .ok (.slice (some ⟨w.heap.size, 0, none⟩) n n) (w.alloc (.cells (madeCells #[.string ByteArray.empty, .int .u64 0] (n * 2)) 47)) := by
  obtain ⟨i, hi, hzz⟩ := Option.map_eq_some_iff.1 Try.info47
  simp only [Prod.mk.injEq] at hzz
  obtain ⟨hz, hs, hb⟩ := hzz
  have hr := run_make (P := Try.prog) w 35 47 i _ Try.underlying35 hi hz .i64 .i64 n n (by omega) (Int.le_refl _) (by rw [hb]; omega) (by omega)
  simp only [Int.toNat_natCast, hs] at hr
  exact hr
theorem row_made_ents (w : World) (n : Nat) : (w.alloc (.cells (madeCells #[.string ByteArray.empty, .int .u64 0] (n * 2)) 47)).rowIs w.heap.size 47 (n * 2) (entF (fun _ => ByteArray.empty) (fun _ => 0)) := by
  refine ⟨_, Deep.blk_alloc_new _ _, by rw [size_madeCells], fun i hi => ?_⟩
  have hi' : i < n * 2 := by omega
  simp only [madeCells, Array.getElem?_map, Array.getElem?_range, hi', if_true, Option.map_some, entF]
  rcases Nat.mod_two_eq_zero_or_one i with h | h <;> simp [h]

theorem entF_step (S : Nat → ByteArray) (C : Nat → Int) (k j : Nat) :
    (if j = k * 2 + 1 then Value.int .u64 (C k) else if j = k * 2 then .string (S k) else entF (fun j => if j < k then S j else ByteArray.empty) (fun j => if j < k then C j else 0) j) =
      entF (fun j => if j < k + 1 then S j else ByteArray.empty) (fun j => if j < k + 1 then C j else 0) j := by
  by_cases h1 : j = k * 2 + 1
  · subst h1
    rw [if_pos rfl, entF_odd, if_pos (by omega)]
  by_cases h2 : j = k * 2
  · subst h2
    rw [if_neg h1, if_pos rfl, entF_even, if_pos (by omega)]
  rw [if_neg h1, if_neg h2]
  have e : (j / 2 < k + 1) = (j / 2 < k) := by simp; omega
  simp [entF, e]

set_option maxHeartbeats 400000 in
theorem entries_any (a1 a2 : Option Addr) (n c1 c2 : Nat) (S : Nat → ByteArray) (C : Nat → Int) (w : World) (hS : Strs w a1 n S) (hC : Cnts w a2 n C) (ha : a1 = none → n = 0) (hn : n ≤ 1048576) :
    Calls Try.prog 28 #[.slice a1 n c1, .slice a2 n c2] w (GotEnts w n S C) := by
  have he := fun a w => Lib.run_eql_slice_nil (P := Try.prog) w 22 9 a n c1 0 0 Try.underlying22
  cases a1 with
  | none =>
    obtain rfl := ha rfl
    go_enter Try.func28, Try.ntmps28
    go_wp2
    go_ret
    exact ⟨none, 0, rfl, .inl rfl, Nat.le_refl _, Below.refl _ _⟩
  | some p =>
    have hmk := run_make_ents n hn
    go_enter Try.func28, Try.ntmps28
    go_wp2
    clear hmk he
    go_loopw [14] (fun i wr => ∃ k : Nat, k ≤ n ∧ i = .int .i64 k ∧ Below w.heap.size w wr ∧ wr.rowIs w.heap.size 47 (n * 2) (entF (fun j => if j < k then S j else ByteArray.empty) (fun j => if j < k then C j else 0))) (fun i _ => n - (intOf i).toNat)
    case atStart => exact ⟨0, Nat.zero_le _, rfl, (Below.refl _ _).alloc (Nat.le_refl _) _, (row_made_ents w n).congr (fun j _ => by simp)⟩
    case round =>
      obtain ⟨k, hk, rfl, hb, hr⟩ := hrel
      by_cases hlt : k < n
      · obtain ⟨b, off, hp, hc⟩ := hS (by omega)
        obtain rfl := Option.some.inj hp
        obtain ⟨b2, off2, rfl, hc2⟩ := hC (by omega)
        have hck : wr.cell? ⟨b, off + k, none⟩ = some (.string (S k)) := by
          rw [← hc k hlt]; exact hb.cell (World.block_lt_of_cell? _ _ (hc k hlt))
        have hck2 : wr.cell? ⟨b2, off2 + k, none⟩ = some (.int .u64 (C k)) := by
          rw [← hc2 k hlt]; exact hb.cell (World.block_lt_of_cell? _ _ (hc2 k hlt))
        have hst := hr.cell (i := k * 2) (by omega)
        have hst2 := hr.cell (i := k * 2 + 1) (by omega)
        have hfr := hr.frozen (k * 2)
        have hfr2 := hr.frozen (k * 2 + 1)
        go_wp2
        go_region
        all_goals go_wp2
        all_goals go_roundw
        case rel =>
          refine ⟨k + 1, by omega, by go_num, ?_, ?_⟩
          · exact ((hb.setCell (Nat.le_refl _) _).setCell (Nat.le_refl _) _).drew
          · refine (((hr.set (k * 2) _).set (k * 2 + 1) _).congr (fun j hj => ?_)).drew
            exact entF_step S C k j
        case measure => simp [intOf]; omega
      · go_wp2
        go_ret
        refine ⟨_, _, rfl, .inr ⟨w.heap.size, Nat.le_refl _, rfl, rfl, hr.congr (fun j hj => ?_)⟩, Nat.le_refl _, hb⟩
        have : j / 2 < k := by omega
        simp [entF, this]
end Go.Proofs.Qxb6605503a
