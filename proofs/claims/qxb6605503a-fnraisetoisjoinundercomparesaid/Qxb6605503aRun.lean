import Derived.Test.Qxb6605503aEnts
import Derived.Test.Qxb6605503aOrder
namespace Go.Proofs.Qxb6605503a
open Go.RowKit

theorem grown_refl (w : World) (r : Option Nat) : w.grownBy w r := ⟨rfl, rfl, rfl, Nat.le_refl _, fun _ _ _ => rfl⟩
theorem grown_trans {w w' w'' : World} {r : Option Nat} (h : w.grownBy w' r) (k : w'.grownBy w'' r) : w.grownBy w'' r :=
  ⟨k.os.trans h.os, k.tape.trans h.tape, k.output.trans h.output, Nat.le_trans h.size k.size, fun i hi hr => (k.block i (Nat.lt_of_lt_of_le hi h.size) hr).trans (h.block i hi hr)⟩
theorem grown_drewN {w w' : World} {r : Option Nat} (h : w.grownBy w' r) (q : Nat) : w.grownBy (w'.drewN q) r := ⟨h.os, h.tape, h.output, h.size, h.block⟩
theorem grown_drew {w w' : World} {r : Option Nat} (h : w.grownBy w' r) : w.grownBy w'.drew r := ⟨h.os, h.tape, h.output, h.size, h.block⟩
theorem grown_set {w w' : World} {b : Nat} (h : w.grownBy w' (some b)) (o : Nat) (v : Value) : w.grownBy (w'.setCell ⟨b, o, none⟩ v) (some b) :=
  grown_trans h ⟨rfl, rfl, rfl, by simp [World.setCell], fun k _ hr => Below.heap_setCell _ _ _ _ (fun e => hr (by simp at e; rw [e]))⟩
theorem grown_alloc {w w' : World} {r : Option Nat} (h : w.grownBy w' r) (o : Obj) : w.grownBy (w'.alloc o) r :=
  grown_trans h (World.grownBy_alloc _ _ _)

/-- n entries lie at a, not in block bd. -/
def EntsX (bd : Nat) (w : World) (a : Option Addr) (n : Nat) (S : Nat → ByteArray) (C : Nat → Int) : Prop :=
  0 < n → ∃ b off, a = some ⟨b, off, none⟩ ∧ b ≠ bd ∧ ∀ i, i < n → w.cell? ⟨b, off + i * 2, none⟩ = some (.string (S i)) ∧ w.cell? ⟨b, off + i * 2 + 1, none⟩ = some (.int .u64 (C i))
theorem EntsX.ents {bd w a n S C} (h : EntsX bd w a n S C) : Ents w a n S C := fun hn => by
  obtain ⟨b, off, h1, _, h2⟩ := h hn
  exact ⟨b, off, h1, h2⟩
theorem EntsX.grown {bd w w' a n S C} (h : EntsX bd w a n S C) (hg : World.grownBy w w' (some bd)) : EntsX bd w' a n S C := fun hn => by
  obtain ⟨b, off, h1, hb, h2⟩ := h hn
  exact ⟨b, off, h1, hb, fun i hi => ⟨hg.cell (h2 i hi).1 (by simpa using hb), hg.cell (h2 i hi).2 (by simpa using hb)⟩⟩
theorem EntsX.drop {bd w a n S C} (h : EntsX bd w a n S C) (k c : Nat) (hk : k ≤ n) (hc : n ≤ c) : EntsX bd w (if c = k then a else a.map (·.add (k * 2))) (n - k) (fun i => S (i + k)) (fun i => C (i + k)) := fun hn => by
  obtain ⟨b, off, rfl, hb, h2⟩ := h (by omega)
  refine ⟨b, off + k * 2, ?_, hb, fun i hi => ?_⟩
  · rw [if_neg (by omega)]
    simp only [Option.map_some, Addr.add]
    by_cases h0 : k * 2 = 0
    · rw [if_pos h0, h0]; rfl
    · rw [if_neg h0]
  · have := h2 (i + k) (by omega)
    rwa [show off + (i + k) * 2 = off + k * 2 + i * 2 from by omega] at this
theorem EntsX.take {bd w a n S C} (h : EntsX bd w a n S C) (k : Nat) (hk : k ≤ n) : EntsX bd w a k S C := fun hn => by
  obtain ⟨b, off, h1, hb, h2⟩ := h (by omega)
  exact ⟨b, off, h1, hb, fun i hi => h2 i (by omega)⟩

/-- The row of the N entries that are raised: block bd is theirs. -/
def Row (w : World) (bd N : Nat) (S : Nat → ByteArray) (C : Nat → Int) : Prop := 0 < N → w.rowIs bd 47 (N * 2) (entF S C)
/-- The n entries from number o on of that row lie at a. -/
def At (a : Option Addr) (bd o n : Nat) : Prop := 0 < n → a = some ⟨bd, o * 2, none⟩
theorem At.drop {a bd o n} (h : At a bd o n) (k c : Nat) (hk : k ≤ n) (hc : n ≤ c) : At (if c = k then a else a.map (·.add (k * 2))) bd (o + k) (n - k) := fun hn => by
  rw [h (by omega), if_neg (by omega)]
  simp only [Option.map_some, Addr.add]
  by_cases h0 : k * 2 = 0
  · rw [if_pos h0, show (o + k) * 2 = o * 2 from by omega]
  · rw [if_neg h0, show (o + k) * 2 = o * 2 + k * 2 from by omega]
theorem row_ents {w a bd o n N S C} (h : Row w bd N S C) (ha : At a bd o n) (hn : o + n ≤ N) : Ents w a n (fun i => S (i + o)) (fun i => C (i + o)) := fun h0 => by
  refine ⟨bd, o * 2, ha h0, fun i hi => ⟨?_, ?_⟩⟩
  · have := (h (by omega)).cell (i := (i + o) * 2) (by omega)
    rwa [entF_even, show (i + o) * 2 = o * 2 + i * 2 from by omega] at this
  · have := (h (by omega)).cell (i := (i + o) * 2 + 1) (by omega)
    rwa [entF_odd, show (i + o) * 2 = o * 2 + i * 2 from by omega] at this
theorem Row.congr {w bd N S C C'} (h : Row w bd N S C) (e : ∀ i, i < N → C i = C' i) : Row w bd N S C' := fun hN =>
  (h hN).congr (fun j hj => by simp only [entF]; rw [e (j / 2) (by omega)])
theorem Row.drewN {w bd N S C} (h : Row w bd N S C) (q : Nat) : Row (w.drewN q) bd N S C := h

/-- The counts from o on raised to the n counts D. -/
def raised (C : Nat → Int) (o n : Nat) (D : Nat → Int) (j : Nat) : Int := if o ≤ j ∧ j < o + n then max (C j) (D (j - o)) else C j

/-- raiseRun has raised the row. -/
def RunIs (w : World) (bd N : Nat) (S : Nat → ByteArray) (C : Nat → Int) (e : Ending) (w' : World) : Prop :=
  e = .returned (.tuple #[]) ∧ Row w' bd N S C ∧ w.grownBy w' (some bd)

theorem row_step {w : World} {bd N S C} {o k : Nat} {D : Nat → Int} (h : w.rowIs bd 47 (N * 2) (entF S (raised C o k D))) (v : Int) (hv : v = max (C (o + k)) (D k)) :
    (w.setCell ⟨bd, o * 2 + k * 2 + 1, none⟩ (.int .u64 v)).rowIs bd 47 (N * 2) (entF S (raised C o (k + 1) D)) := by
  refine (h.set _ _).congr (fun j hj => ?_)
  by_cases e : j = o * 2 + k * 2 + 1
  · subst e
    rw [if_pos rfl, show o * 2 + k * 2 + 1 = (o + k) * 2 + 1 from by omega, entF_odd, hv]
    simp only [raised]
    rw [if_pos ⟨by omega, by omega⟩, show o + k - o = k from by omega]
  · rw [if_neg e]
    simp only [entF]
    by_cases h2 : j % 2 = 0
    · rw [if_pos h2, if_pos h2]
    · rw [if_neg h2, if_neg h2]
      simp only [raised]
      by_cases h3 : o ≤ j / 2 ∧ j / 2 < o + k
      · rw [if_pos h3, if_pos ⟨h3.1, by omega⟩]
      · rw [if_neg h3, if_neg (by omega)]

set_option maxHeartbeats 1000000 in
theorem run_any (ad az : Option Addr) (bd N o nd cd ns cs : Nat) (S SS : Nat → ByteArray) (C CS : Nat → Int) (w : World) (hR : Row w bd N S C) (ha : At ad bd o nd) (hn : ns ≤ nd) (hN : o + nd ≤ N) (hcd : nd ≤ cd) (hS : EntsX bd w az ns SS CS) (hm : N ≤ 1048576) :
    Calls Try.prog 34 #[.slice ad nd cd, .slice az ns cs] w (RunIs w bd N S (raised C o ns CS)) := by
  go_enter Try.func34, Try.ntmps34
  go_wp2
  go_loopw [11] (fun i wr => ∃ k : Nat, k ≤ ns ∧ i = .int .i64 k ∧ Row wr bd N S (raised C o k CS) ∧ w.grownBy wr (some bd)) (fun i _ => ns - (intOf i).toNat)
  case atStart => exact ⟨0, Nat.zero_le _, rfl, hR.congr (fun i _ => by simp only [raised]; rw [if_neg (by omega)]), grown_refl _ _⟩
  case round =>
    obtain ⟨k, hk, rfl, hr, hg⟩ := hrel
    by_cases hlt : k < ns
    · obtain rfl := ha (by omega)
      obtain ⟨b, off, rfl, hb, hc⟩ := hS (by omega)
      have g1 := hg.cell (hc k hlt).2 (by simpa using hb)
      clear hc
      have hr' := hr (by omega)
      have g2 := hr'.cell (i := o * 2 + k * 2 + 1) (by omega)
      have g3 := hr'.frozen (o * 2 + k * 2 + 1)
      rw [show o * 2 + k * 2 + 1 = (o + k) * 2 + 1 from by omega, entF_odd, show raised C o k CS (o + k) = C (o + k) from by simp only [raised]; rw [if_neg (by omega)], show (o + k) * 2 + 1 = o * 2 + k * 2 + 1 from by omega] at g2
      have hkz : (k : Int) < (ns : Int) := by omega
      go_wp2
      go_region
      go_wp2
      go_roundw
      case rel =>
        refine ⟨k + 1, by omega, by go_num, fun _ => (row_step hr' _ ?_).drew, grown_drew (grown_set hg _ _)⟩
        split <;> omega
      case measure => simp [intOf]; omega
    · go_wp2
      go_end0
      obtain rfl : k = ns := by omega
      exact ⟨rfl, hr, hg⟩
end Go.Proofs.Qxb6605503a
