import Derived.Test.Qxb6605503aBase
namespace Go.Proofs.Qxb6605503a
open Go.RowKit

/-- The call has handed back a slice of n strings of its own. -/
def GotStrs (w : World) (n : Nat) (S : Nat → ByteArray) (e : Ending) (w' : World) : Prop :=
  ∃ a' c', e = .returned (.slice a' n c') ∧ Strs w' a' n S ∧ (a' = none → n = 0) ∧ Below w.heap.size w w'
def GotCnts (w : World) (n : Nat) (C : Nat → Int) (e : Ending) (w' : World) : Prop :=
  ∃ a' c', e = .returned (.slice a' n c') ∧ Cnts w' a' n C ∧ (a' = none → n = 0) ∧ Below w.heap.size w w'

set_option maxHeartbeats 400000 in
theorem clone_strs (a : Option Addr) (n c : Nat) (S : Nat → ByteArray) (w : World) (hS : Strs w a n S) (ha : a = none → n = 0) (hn : n ≤ 1048576) :
    Calls Try.prog 10 #[.slice a n c] w (GotStrs w n S) := by
  have he := fun a w => Lib.run_eql_slice_nil (P := Try.prog) w 22 9 a n c 0 0 Try.underlying22
  cases a with
  | none =>
    obtain rfl := ha rfl
    go_enter Try.func10, Try.ntmps10
    go_wp2
    go_ret
    exact ⟨none, 0, rfl, fun h => absurd h (Nat.lt_irrefl _), fun _ => rfl, Below.refl _ _⟩
  | some p =>
    have hmk := run_make_row' (P := Try.prog) 22 9 (.string ByteArray.empty) 16 Try.underlying22 Try.info9 rfl .i64 .i64 n (by omega) (by omega)
    go_enter Try.func10, Try.ntmps10
    go_wp2
    clear hmk he
    go_loopw [4] (fun i wr => ∃ k : Nat, k ≤ n ∧ i = .int .i64 k ∧ Below w.heap.size w wr ∧ wr.rowIs w.heap.size 9 n (fun j => .string (if j < k then S j else ByteArray.empty))) (fun i _ => n - (intOf i).toNat)
    case atStart => exact ⟨0, Nat.zero_le _, rfl, (Below.refl _ _).alloc (Nat.le_refl _) _, (World.rowIs_made w _ n 9).congr (fun j _ => by simp)⟩
    case round =>
      obtain ⟨k, hk, rfl, hb, hr⟩ := hrel
      by_cases hlt : k < n
      · obtain ⟨b, off, hp, hc⟩ := hS (by omega)
        obtain rfl := Option.some.inj hp
        have hck : wr.cell? ⟨b, off + k, none⟩ = some (.string (S k)) := by
          rw [← hc k hlt]; exact hb.cell (World.block_lt_of_cell? _ _ (hc k hlt))
        have hst := hr.cell hlt
        have hfr := hr.frozen k
        go_wp2
        go_roundw
        case rel =>
          refine ⟨k + 1, by omega, by go_num, hb.setCell (Nat.le_refl _) _, (hr.set k _).congr (fun j _ => ?_)⟩
          by_cases e : j = k
          · subst e; simp
          · have : (j < k + 1) = (j < k) := by simp; omega
            simp [e, this]
        case measure => simp [intOf]; omega
      · go_wp2
        go_ret
        refine ⟨_, _, rfl, fun _ => ⟨w.heap.size, 0, rfl, fun i hi => ?_⟩, fun h => (by cases h), hb⟩
        have := hr.cell hi
        simp only [Nat.zero_add]
        rw [this, if_pos (by omega)]

set_option maxHeartbeats 400000 in
theorem clone_cnts (a : Option Addr) (n c : Nat) (C : Nat → Int) (w : World) (hS : Cnts w a n C) (ha : a = none → n = 0) (hn : n ≤ 1048576) :
    Calls Try.prog 11 #[.slice a n c] w (GotCnts w n C) := by
  have he := fun a w => Lib.run_eql_slice_nil (P := Try.prog) w 23 32 a n c 0 0 Try.underlying23
  cases a with
  | none =>
    obtain rfl := ha rfl
    go_enter Try.func11, Try.ntmps11
    go_wp2
    go_ret
    exact ⟨none, 0, rfl, fun h => absurd h (Nat.lt_irrefl _), fun _ => rfl, Below.refl _ _⟩
  | some p =>
    have hmk := run_make_row' (P := Try.prog) 23 32 (.int .u64 0) 8 Try.underlying23 Try.info32 rfl .i64 .i64 n (by omega) (by omega)
    go_enter Try.func11, Try.ntmps11
    go_wp2
    clear hmk he
    go_loopw [4] (fun i wr => ∃ k : Nat, k ≤ n ∧ i = .int .i64 k ∧ Below w.heap.size w wr ∧ wr.rowIs w.heap.size 32 n (fun j => .int .u64 (if j < k then C j else 0))) (fun i _ => n - (intOf i).toNat)
    case atStart => exact ⟨0, Nat.zero_le _, rfl, (Below.refl _ _).alloc (Nat.le_refl _) _, (World.rowIs_made w _ n 32).congr (fun j _ => by simp)⟩
    case round =>
      obtain ⟨k, hk, rfl, hb, hr⟩ := hrel
      by_cases hlt : k < n
      · obtain ⟨b, off, hp, hc⟩ := hS (by omega)
        obtain rfl := Option.some.inj hp
        have hck : wr.cell? ⟨b, off + k, none⟩ = some (.int .u64 (C k)) := by
          rw [← hc k hlt]; exact hb.cell (World.block_lt_of_cell? _ _ (hc k hlt))
        have hst := hr.cell hlt
        have hfr := hr.frozen k
        go_wp2
        go_roundw
        case rel =>
          refine ⟨k + 1, by omega, by go_num, hb.setCell (Nat.le_refl _) _, (hr.set k _).congr (fun j _ => ?_)⟩
          by_cases e : j = k
          · subst e; simp
          · have : (j < k + 1) = (j < k) := by simp; omega
            simp [e, this]
        case measure => simp [intOf]; omega
      · go_wp2
        go_ret
        refine ⟨_, _, rfl, fun _ => ⟨w.heap.size, 0, rfl, fun i hi => ?_⟩, fun h => (by cases h), hb⟩
        have := hr.cell hi
        simp only [Nat.zero_add]
        rw [this, if_pos (by omega)]
end Go.Proofs.Qxb6605503a
