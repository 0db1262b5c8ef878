import Derived.Test.Qxb6605503aBase
import Derived.ProofKit
import Derived.OpenShut
import Derived.ShutString
import Derived.ChangeOld
import Derived.SliceStrings
namespace Go.Proofs.Qxb6605503a
open Go.ChangeShapes Go.WideShapes Go.ChangeAt Go.RowKit
set_option linter.unusedVariables false

theorem own : ownKnob Try.prog.godebug = none := by kernel_rfl
theorem laidOut : laidOutB Try.prog = true := by kernel_rfl

/-- WHAT THE WALK IS TOLD OF THE FOUR ARGUMENTS. -/
structure Args4 (w : World) (a1 : Option Addr) (n1 c1 : Nat) (a2 : Option Addr) (n2 c2 : Nat) (a3 : Option Addr) (n3 c3 : Nat) (a4 : Option Addr) (n4 c4 : Nat) (S1 S3 : Nat → ByteArray) (C2 C4 : Nat → Int) : Prop where
  s1 : Strs w a1 n1 S1
  s2 : Cnts w a2 n2 C2
  s3 : Strs w a3 n3 S3
  s4 : Cnts w a4 n4 C4
  z1 : a1 = none → n1 = 0
  z2 : a2 = none → n2 = 0
  z3 : a3 = none → n3 = 0
  z4 : a4 = none → n4 = 0
  m1 : n1 ≤ maxLen
  m2 : n2 ≤ maxLen
  m3 : n3 ≤ maxLen
  m4 : n4 ≤ maxLen
  b2 : ∀ i, i < n2 → 0 ≤ C2 i ∧ C2 i ≤ 18446744073709551615
  b4 : ∀ i, i < n4 → 0 ≤ C4 i ∧ C4 i ≤ 18446744073709551615

variable {H : Type} {enc : TypeId × Value → H} {W : World}

theorem strs_of {a : Option Addr} {len cap fuel : Nat} {x : DataW H × List MemPlace} (hf : DataW.trod enc Try.prog W 0 (fun _ => true) true fuel 22 [.slice a len cap] = some x) :
    ∃ S, Strs W a len S ∧ (a = none → len = 0) ∧ len ≤ maxLen := by
  rcases open_strings Try.underlying22 Try.underlying9 (by kernel_rfl) hf with ⟨hcs, _⟩ | ⟨p, l, c, ss, hcs, _, hl, hm, hz, _, hcell, _⟩
  · simp at hcs
    obtain ⟨rfl, rfl, rfl⟩ := hcs
    exact ⟨fun _ => ByteArray.empty, fun h => absurd h (Nat.lt_irrefl _), fun _ => rfl, Nat.zero_le _⟩
  · simp at hcs
    obtain ⟨rfl, rfl, rfl⟩ := hcs
    simp only [if_true] at hz
    refine ⟨fun i => ss.getD i ByteArray.empty, fun h => ?_, fun h => (by cases h), by omega⟩
    obtain ⟨b, off, spot⟩ := p
    have hspot : spot = none := by simpa [Addr.add] using World.cell?_spot (hcell 0 (by omega))
    subst hspot
    exact ⟨b, off, rfl, fun i hi => by rw [← add_plain]; exact hcell i (by omega)⟩
theorem cnts_of {a : Option Addr} {len cap fuel : Nat} {x : DataW H × List MemPlace} (hf : DataW.trod enc Try.prog W 0 (fun _ => true) true fuel 23 [.slice a len cap] = some x) :
    ∃ C, Cnts W a len C ∧ (a = none → len = 0) ∧ len ≤ maxLen ∧ ∀ i, i < len → 0 ≤ C i ∧ C i ≤ 18446744073709551615 := by
  rcases open_ints Try.underlying23 Try.underlying32 (by kernel_rfl) hf with ⟨hcs, _⟩ | ⟨p, l, c, zs, hcs, _, hl, hm, hz, _, hcell, hwz⟩
  · simp at hcs
    obtain ⟨rfl, rfl, rfl⟩ := hcs
    exact ⟨fun _ => 0, fun h => absurd h (Nat.lt_irrefl _), fun _ => rfl, Nat.zero_le _, fun i hi => by omega⟩
  · simp at hcs
    obtain ⟨rfl, rfl, rfl⟩ := hcs
    simp only [if_true] at hz
    refine ⟨fun i => zs.getD i 0, fun h => ?_, fun h => (by cases h), by omega, fun i hi => ?_⟩
    · obtain ⟨b, off, spot⟩ := p
      have hspot : spot = none := by simpa [Addr.add] using World.cell?_spot (hcell 0 (by omega))
      subst hspot
      exact ⟨b, off, rfl, fun i hi => by rw [← add_plain]; exact hcell i (by omega)⟩
    · have hi' : i < zs.length := by omega
      have hm : zs.getD i 0 ∈ zs := by rw [List.getD_eq_getElem?_getD, List.getElem?_eq_getElem hi']; exact List.getElem_mem hi'
      have := bounds_u64 (hwz _ hm)
      show 0 ≤ zs.getD i 0 ∧ _
      omega
theorem strs_in {a : Option Addr} {len cap : Nat} {d : DataW H} {p : List MemPlace} (h : DataW.Trod enc Try.prog W 0 (fun _ => true) true 22 (.slice a len cap) d p) :
    ∃ S, Strs W a len S ∧ (a = none → len = 0) ∧ len ≤ maxLen := by
  obtain ⟨f, hf⟩ := h
  exact strs_of (by simpa [Value.cells] using hf)
theorem cnts_in {a : Option Addr} {len cap : Nat} {d : DataW H} {p : List MemPlace} (h : DataW.Trod enc Try.prog W 0 (fun _ => true) true 23 (.slice a len cap) d p) :
    ∃ C, Cnts W a len C ∧ (a = none → len = 0) ∧ len ≤ maxLen ∧ ∀ i, i < len → 0 ≤ C i ∧ C i ≤ 18446744073709551615 := by
  obtain ⟨f, hf⟩ := h
  exact cnts_of (by simpa [Value.cells] using hf)
end Go.Proofs.Qxb6605503a
