import Derived.Test.Qxb6605551aRows
import Derived.WalkKit
import Derived.WalkSpells
import Derived.WalkLawsBesides
import Derived.Below
import Derived.Deep.OwnRows
import Derived.Deep.QuietTactic
import Derived.BigQuiet
import Derived.RegionTactic
namespace Go.Proofs.Qxb6605551a
open Go.RowKit

/-- n integers of kind k lie at a. -/
def Ints (k : IntKind) (w : World) (a : Option Addr) (n : Nat) (Z : Nat → Int) : Prop :=
  0 < n → ∃ b off, a = some ⟨b, off, none⟩ ∧ ∀ i, i < n → w.cell? ⟨b, off + i, none⟩ = some (.int k (Z i))
theorem Ints.below {k : IntKind} {w w' : World} {a n Z} (h : Ints k w a n Z) (hb : Below w.heap.size w w') : Ints k w' a n Z := by
  intro hn
  obtain ⟨b, off, rfl, hc⟩ := h hn
  refine ⟨b, off, rfl, fun i hi => ?_⟩
  have := hc i hi
  rw [← this]
  exact hb.cell (World.block_lt_of_cell? _ _ this)
theorem below_drewN (B : Nat) (w : World) (n : Nat) : Below B w (w.drewN n) := ⟨rfl, rfl, rfl, Nat.le_refl _, fun _ _ => rfl⟩

theorem Try.info5 : (Try.prog.info? 5).map (fun i => (i.zero, i.size, i.bytes)) = some (some (.int .u8 0), 1, 1) := by kernel_rfl
theorem Try.info2 : (Try.prog.info? 2).map (fun i => (i.zero, i.size, i.bytes)) = some (some (.int .i64 0), 1, 8) := by kernel_rfl

/-- The call has handed back some bool and left the world alone; where it is true, B holds. -/
def SomeBool (w : World) (B : Prop) (e : Ending) (w' : World) : Prop := ∃ r : Bool, e = .returned (.bool r) ∧ w' = w ∧ (r = true → B)
/-- The call has handed back a copy in memory of its own. -/
def GotInts (k : IntKind) (w : World) (n : Nat) (Z : Nat → Int) (e : Ending) (w' : World) : Prop :=
  ∃ a' c', e = .returned (.slice a' n c') ∧ Ints k w' a' n Z ∧ (a' = none → n = 0) ∧ n ≤ c' ∧ Below w.heap.size w w'

theorem bytes7 (a : Option Addr) (n c : Nat) (w : World) (m : n ≤ maxLen) : Calls Try.prog 7 #[.slice a n c] w (SomeBool w (n ≤ 1048576)) := by
  unfold maxLen at m
  by_cases t1 : 1048576 < n
  · go_enter Try.func7, Try.ntmps7
    go_wp2
    go_ret
    exact ⟨false, rfl, rfl, fun h => by cases h⟩
  · go_enter Try.func7, Try.ntmps7
    go_wp2
    go_ret
    exact ⟨true, rfl, rfl, fun _ => by omega⟩
theorem bytes10 (a : Option Addr) (n c : Nat) (w : World) (m : n ≤ maxLen) : Calls Try.prog 10 #[.slice a n c] w (SomeBool w (n ≤ 1048576)) := by
  unfold maxLen at m
  by_cases t1 : 1048576 < n
  · go_enter Try.func10, Try.ntmps10
    go_wp2
    go_ret
    exact ⟨false, rfl, rfl, fun h => by cases h⟩
  · go_enter Try.func10, Try.ntmps10
    go_wp2
    go_ret
    exact ⟨true, rfl, rfl, fun _ => by omega⟩
theorem bytes13 (x y : Int) (s : Bool) (a : Option Addr) (n c : Nat) (w : World) (m : n ≤ maxLen) : Calls Try.prog 13 #[.int .u32 x, .int .u32 y, .bool s, .slice a n c] w (SomeBool w (n ≤ 1048576)) := by
  unfold maxLen at m
  by_cases t1 : 1048576 < n
  · go_enter Try.func13, Try.ntmps13
    go_wp2
    go_ret
    exact ⟨false, rfl, rfl, fun h => by cases h⟩
  · go_enter Try.func13, Try.ntmps13
    go_wp2
    go_ret
    exact ⟨true, rfl, rfl, fun _ => by omega⟩

set_option maxHeartbeats 400000 in
theorem clone_bytes (a : Option Addr) (n c : Nat) (Z : Nat → Int) (w : World) (hS : Ints .u8 w a n Z) (ha : a = none → n = 0) (hn : n ≤ 1048576) :
    Calls Try.prog 11 #[.slice a n c] w (GotInts .u8 w n Z) := by
  have he := fun a w => Lib.run_eql_slice_nil (P := Try.prog) w 30 5 a n c 0 0 Try.underlying30
  cases a with
  | none =>
    obtain rfl := ha rfl
    go_enter Try.func11, Try.ntmps11
    go_wp2
    go_ret
    exact ⟨none, 0, rfl, fun h => absurd h (Nat.lt_irrefl _), fun _ => rfl, Nat.le_refl _, Below.refl _ _⟩
  | some p =>
    have hmk := run_make_row' (P := Try.prog) 30 5 (.int .u8 0) 1 Try.underlying30 Try.info5 rfl .i64 .i64 n (by omega) (by omega)
    go_enter Try.func11, Try.ntmps11
    go_wp2
    clear hmk he
    go_loopw [4] (fun i wr => ∃ k : Nat, k ≤ n ∧ i = .int .i64 k ∧ Below w.heap.size w wr ∧ wr.rowIs w.heap.size 5 n (fun j => .int .u8 (if j < k then Z j else 0))) (fun i _ => n - (intOf i).toNat)
    case atStart => exact ⟨0, Nat.zero_le _, rfl, (Below.refl _ _).alloc (Nat.le_refl _) _, (World.rowIs_made w _ n 5).congr (fun j _ => by simp)⟩
    case round =>
      obtain ⟨k, hk, rfl, hb, hr⟩ := hrel
      by_cases hlt : k < n
      · obtain ⟨b, off, hp, hc⟩ := hS (by omega)
        obtain rfl := Option.some.inj hp
        have hck : wr.cell? ⟨b, off + k, none⟩ = some (.int .u8 (Z k)) := by
          rw [← hc k hlt]; exact hb.cell (World.block_lt_of_cell? _ _ (hc k hlt))
        have hst := hr.cell hlt
        have hfr := hr.frozen k
        go_wp2
        go_roundw
        case rel =>
          refine ⟨k + 1, by omega, by go_num, hb.setCell (Nat.le_refl _) _, (hr.set k _).congr (fun j _ => ?_)⟩
          by_cases e : j = k
          · subst e; simp
          · have : (j < k + 1) = (j < k) := by simp; omega
            simp [e, this]
        case measure => simp [intOf]; omega
      · go_wp2
        go_ret
        refine ⟨_, _, rfl, fun _ => ⟨w.heap.size, 0, rfl, fun i hi => ?_⟩, fun h => (by cases h), Nat.le_refl _, hb⟩
        have := hr.cell hi
        simp only [Nat.zero_add]
        rw [this, if_pos (by omega)]

set_option maxHeartbeats 400000 in
theorem clone_i64 (a : Option Addr) (n c : Nat) (Z : Nat → Int) (w : World) (hS : Ints .i64 w a n Z) (ha : a = none → n = 0) (hn : n ≤ 1048576) :
    Calls Try.prog 8 #[.slice a n c] w (GotInts .i64 w n Z) := by
  have he := fun a w => Lib.run_eql_slice_nil (P := Try.prog) w 22 2 a n c 0 0 Try.underlying22
  cases a with
  | none =>
    obtain rfl := ha rfl
    go_enter Try.func8, Try.ntmps8
    go_wp2
    go_ret
    exact ⟨none, 0, rfl, fun h => absurd h (Nat.lt_irrefl _), fun _ => rfl, Nat.le_refl _, Below.refl _ _⟩
  | some p =>
    have hmk := run_make_row' (P := Try.prog) 22 2 (.int .i64 0) 8 Try.underlying22 Try.info2 rfl .i64 .i64 n (by omega) (by omega)
    go_enter Try.func8, Try.ntmps8
    go_wp2
    clear hmk he
    go_loopw [4] (fun i wr => ∃ k : Nat, k ≤ n ∧ i = .int .i64 k ∧ Below w.heap.size w wr ∧ wr.rowIs w.heap.size 2 n (fun j => .int .i64 (if j < k then Z j else 0))) (fun i _ => n - (intOf i).toNat)
    case atStart => exact ⟨0, Nat.zero_le _, rfl, (Below.refl _ _).alloc (Nat.le_refl _) _, (World.rowIs_made w _ n 2).congr (fun j _ => by simp)⟩
    case round =>
      obtain ⟨k, hk, rfl, hb, hr⟩ := hrel
      by_cases hlt : k < n
      · obtain ⟨b, off, hp, hc⟩ := hS (by omega)
        obtain rfl := Option.some.inj hp
        have hck : wr.cell? ⟨b, off + k, none⟩ = some (.int .i64 (Z k)) := by
          rw [← hc k hlt]; exact hb.cell (World.block_lt_of_cell? _ _ (hc k hlt))
        have hst := hr.cell hlt
        have hfr := hr.frozen k
        go_wp2
        go_roundw
        case rel =>
          refine ⟨k + 1, by omega, by go_num, hb.setCell (Nat.le_refl _) _, (hr.set k _).congr (fun j _ => ?_)⟩
          by_cases e : j = k
          · subst e; simp
          · have : (j < k + 1) = (j < k) := by simp; omega
            simp [e, this]
        case measure => simp [intOf]; omega
      · go_wp2
        go_ret
        refine ⟨_, _, rfl, fun _ => ⟨w.heap.size, 0, rfl, fun i hi => ?_⟩, fun h => (by cases h), Nat.le_refl _, hb⟩
        have := hr.cell hi
        simp only [Nat.zero_add]
        rw [this, if_pos (by omega)]
end Go.Proofs.Qxb6605551a
