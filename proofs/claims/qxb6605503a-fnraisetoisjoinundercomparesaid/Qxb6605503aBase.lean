import Derived.Test.Qxb6605503aRows
import Derived.WalkKit
import Derived.WalkSpells
import Derived.WalkLawsBesides
import Derived.Below
import Derived.Deep.OwnRows
import Derived.Deep.QuietTactic
import Derived.BigQuiet
namespace Go.Proofs.Qxb6605503a
open Go.RowKit

/-- n strings lie at a. -/
def Strs (w : World) (a : Option Addr) (n : Nat) (S : Nat → ByteArray) : Prop :=
  0 < n → ∃ b off, a = some ⟨b, off, none⟩ ∧ ∀ i, i < n → w.cell? ⟨b, off + i, none⟩ = some (.string (S i))
/-- n counts lie at a. -/
def Cnts (w : World) (a : Option Addr) (n : Nat) (C : Nat → Int) : Prop :=
  0 < n → ∃ b off, a = some ⟨b, off, none⟩ ∧ ∀ i, i < n → w.cell? ⟨b, off + i, none⟩ = some (.int .u64 (C i))
/-- n entries (host, count) lie at a. -/
def Ents (w : World) (a : Option Addr) (n : Nat) (S : Nat → ByteArray) (C : Nat → Int) : Prop :=
  0 < n → ∃ b off, a = some ⟨b, off, none⟩ ∧ ∀ i, i < n → w.cell? ⟨b, off + i * 2, none⟩ = some (.string (S i)) ∧ w.cell? ⟨b, off + i * 2 + 1, none⟩ = some (.int .u64 (C i))

theorem Strs.below {w w' : World} {a n S} (h : Strs w a n S) (hb : Below w.heap.size w w') : Strs w' a n S := by
  intro hn
  obtain ⟨b, off, rfl, hc⟩ := h hn
  refine ⟨b, off, rfl, fun i hi => ?_⟩
  have := hc i hi
  rw [← this]
  exact hb.cell (World.block_lt_of_cell? _ _ this)
theorem Cnts.below {w w' : World} {a n C} (h : Cnts w a n C) (hb : Below w.heap.size w w') : Cnts w' a n C := by
  intro hn
  obtain ⟨b, off, rfl, hc⟩ := h hn
  refine ⟨b, off, rfl, fun i hi => ?_⟩
  have := hc i hi
  rw [← this]
  exact hb.cell (World.block_lt_of_cell? _ _ this)
theorem Ents.below {w w' : World} {a n S C} (h : Ents w a n S C) (hb : Below w.heap.size w w') : Ents w' a n S C := by
  intro hn
  obtain ⟨b, off, rfl, hc⟩ := h hn
  refine ⟨b, off, rfl, fun i hi => ?_⟩
  have ⟨h1, h2⟩ := hc i hi
  rw [← h1, ← h2]
  exact ⟨hb.cell (World.block_lt_of_cell? _ _ h1), hb.cell (World.block_lt_of_cell? _ _ h2)⟩
/-- A callee's contract at a region behind draws: 'Calls.quiet_of', the world's count written out. -/
theorem quiet_at {P : Program} {f : FuncId} {args : Array Value} {w : World} {c n : Nat} {v : Value}
    (h : Calls P f args (w.drewN (c + n)) fun e w' => e = .returned v ∧ ∃ m, w' = (w.drewN (c + n)).drewN m) : Calls P f args (w.drewN (c + n)) fun e w'' => e = .returned v ∧ ∃ m, w'' = w.drewN (c + m) :=
  h.mono fun _ _ ⟨he, m, hm⟩ => ⟨he, n + m, by rw [hm, World.drewN_drewN, Nat.add_assoc]⟩
theorem below_drewN (B : Nat) (w : World) (n : Nat) : Below B w (w.drewN n) := ⟨rfl, rfl, rfl, Nat.le_refl _, fun _ _ => rfl⟩

theorem Try.info9 : (Try.prog.info? 9).map (fun i => (i.zero, i.size, i.bytes)) = some (some (.string ByteArray.empty), 1, 16) := by kernel_rfl
theorem Try.info32 : (Try.prog.info? 32).map (fun i => (i.zero, i.size, i.bytes)) = some (some (.int .u64 0), 1, 8) := by kernel_rfl
theorem Try.info47 : (Try.prog.info? 47).map (fun i => (i.zero, i.size, i.bytes)) = some (some (.agg #[.string ByteArray.empty, .int .u64 0]), 2, 24) := by kernel_rfl
end Go.Proofs.Qxb6605503a
