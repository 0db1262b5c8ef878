import Derived.Test.Qxb6605503aRaiseTo
import Derived.Test.Qxb6605503aFind
import Derived.Test.Qxb6605503aClone
namespace Go.Proofs.Qxb6605503a
open Go.RowKit

/-- zzSubset's answer. -/
def SubsetIs (w : World) (n1 : Nat) (S1 : Nat → ByteArray) (n2 : Nat) (S2 : Nat → ByteArray) (e : Ending) (w' : World) : Prop :=
  w' = w ∧ ∃ r : Bool, e = .returned (.bool r) ∧ (r = true → ∀ i, i < n1 → ∃ j, j < n2 ∧ S2 j = S1 i) ∧ (r = false → ∃ i, i < n1 ∧ ∀ j, j < n2 → S2 j ≠ S1 i)

set_option maxHeartbeats 400000 in
theorem subset_any (a1 a2 : Option Addr) (n1 c1 n2 c2 : Nat) (S1 S2 : Nat → ByteArray) (w : World) (h1 : Strs w a1 n1 S1) (h2 : Strs w a2 n2 S2) (m1 : n1 ≤ 1048576) (m2 : n2 ≤ 1048576) (hs : Sorted n2 S2) :
    Calls Try.prog 15 #[.slice a1 n1 c1, .slice a2 n2 c2] w (SubsetIs w n1 S1 n2 S2) := by
  have HSO : Hid (Sorted n2 S2) := hs
  clear hs
  go_enter Try.func15, Try.ntmps15
  go_wp2
  go_loop [5] (fun i => ∃ k : Nat, k ≤ n1 ∧ i = .int .i64 k ∧ ∀ i, i < k → ∃ j, j < n2 ∧ S2 j = S1 i) (fun i => n1 - (intOf i).toNat)
  case atStart => exact ⟨0, Nat.zero_le _, rfl, fun i hi => by omega⟩
  case round =>
    obtain ⟨k, hk, rfl, hr⟩ := hrel
    have HR : Hid (∀ i, i < k → ∃ j, j < n2 ∧ S2 j = S1 i) := hr
    clear hr
    by_cases hlt : k < n1
    · obtain ⟨b, off, rfl, hc⟩ := h1 (by omega)
      have g := hc k hlt
      go_wp2_with fail
      refine (find_any a2 n2 c2 S2 (S1 k) w h2 m2 HSO.out).mono ?_
      rintro e w' ⟨rfl, ⟨rfl, hn⟩ | ⟨j, rfl, hj, hjk⟩⟩
      · have HN : Hid (∀ i, i < n2 → S2 i ≠ S1 k) := hn
        clear hn
        go_wp2
        go_ret
        exact ⟨rfl, false, rfl, (fun h => by cases h), fun _ => ⟨k, hlt, HN.out⟩⟩
      · have HJ : Hid (S2 j = S1 k) := hjk
        clear hjk
        go_wp2
        go_round
        case rel =>
          refine ⟨k + 1, by omega, by go_num, fun i hi => ?_⟩
          rcases Nat.lt_or_ge i k with h | h
          · exact HR.out i h
          · obtain rfl : i = k := by omega
            exact ⟨j, hj, HJ.out⟩
        case measure => simp [intOf]; omega
    · go_wp2
      go_ret
      exact ⟨rfl, true, rfl, fun _ i hi => HR.out i (by omega), (fun h => by cases h)⟩

/-- What ZZRaiseTo hands back. -/
def ZRaiseIs (w : World) (N : Nat) (S : Nat → ByteArray) (C : Nat → Int) (ns : Nat) (SS : Nat → ByteArray) (CS : Nat → Int) (e : Ending) (w' : World) : Prop :=
  ∃ (r : Bool) (ah : Option Addr) (ch : Nat) (ac : Option Addr) (cc : Nat), e = .returned (.tuple #[.bool r, .slice ah N ch, .slice ac N cc]) ∧ (r = true → ∀ i, i < ns → ∃ j, j < N ∧ S j = SS i) ∧ (r = false → ∃ i, i < ns ∧ ∀ j, j < N → S j ≠ SS i) ∧
    Strs w' ah N S ∧ Cnts w' ac N (if r then fullC S C ns SS CS else C) ∧ (ah = none → N = 0) ∧ (ac = none → N = 0) ∧ Below w.heap.size w w'

set_option maxHeartbeats 1000000 in
theorem zzraise_any (a1 a2 a3 a4 : Option Addr) (N ns c1 c2 c3 c4 : Nat) (S SS : Nat → ByteArray) (C CS : Nat → Int) (w : World) (h1 : Strs w a1 N S) (h2 : Cnts w a2 N C) (h3 : Strs w a3 ns SS) (h4 : Cnts w a4 ns CS)
    (z1 : a1 = none → N = 0) (z3 : a3 = none → ns = 0) (m1 : N ≤ 1048576) (m3 : ns ≤ 1048576) (so : Sorted N S) (ss : Sorted ns SS) (hC : ∀ j, j < N → 0 ≤ C j) :
    Calls Try.prog 16 #[.slice a1 N c1, .slice a2 N c2, .slice a3 ns c3, .slice a4 ns c4] w (ZRaiseIs w N S C ns SS CS) := by
  go_enter Try.func16, Try.ntmps16
  go_wp2_with fail
  refine (entries_any a1 a2 N c1 c2 S C w h1 h2 z1 m1).mono ?_
  rintro e w1 ⟨ad, cd, rfl, hD, hcd, b1⟩
  go_wp2_with fail
  refine (entries_any a3 a4 ns c3 c4 SS CS w1 (h3.below b1) (h4.below b1) z3 m3).mono ?_
  rintro e w2 ⟨az, cs, rfl, hE, hcs, b2⟩
  -- the row that is raised
  obtain ⟨bd, hbd, hAt, hlt, hRow⟩ : ∃ bd, w.heap.size ≤ bd ∧ At ad bd 0 N ∧ (bd < w1.heap.size ∨ bd = w2.heap.size) ∧ Row w2 bd N S C := by
    rcases hD with rfl | ⟨b, hb, rfl, _, hr⟩
    · exact ⟨w2.heap.size, Nat.le_trans b1.size b2.size, fun h => absurd h (Nat.lt_irrefl _), .inr rfl, fun h => absurd h (Nat.lt_irrefl _)⟩
    · exact ⟨b, hb, fun _ => by rw [Nat.zero_mul], .inl hr.lt, fun _ => hr.of_block (b2.block b hr.lt)⟩
  have hEX : EntsX bd w2 az ns SS CS := by
    rcases hE with rfl | ⟨b, hb, rfl, _, hr⟩
    · exact fun h => absurd h (Nat.lt_irrefl _)
    · intro h0
      obtain ⟨b', off, e, hc⟩ := ents_of_row hr h0
      have hbl := hr.lt
      have e1 : b = b' ∧ 0 = off := by simpa using e
      obtain ⟨rfl, rfl⟩ := e1
      exact ⟨b, 0, rfl, by omega, hc⟩
  have hB2 : Below w.heap.size w w2 := b1.trans (b2.mono b1.size)
  have hzz := hB2.size
  clear hD hE b1 b2 h1 h2 h3 h4 z1 z3 hlt
  go_wp2_with fail
  refine (raise_any ad az bd N cd ns cs S SS C CS w2 hRow hAt hcd hEX hcs m1 m3 so ss hC).mono ?_
  rintro e w3 ⟨r, rfl, hr1, hr2, hR3, hg3⟩
  have hE3 := row_ents hR3 hAt (by omega)
  have hB3 : Below w.heap.size w w3 := hB2.grown hg3 hzz (fun k hk => by have := Option.some.inj hk; omega)
  have hz3 := hB3.size
  have HR1 : Hid (r = true → ∀ i, i < ns → ∃ j, j < N ∧ S j = SS i) := hr1
  have HR2 : Hid (r = false → ∃ i, i < ns ∧ ∀ j, j < N → S j ≠ SS i) := hr2
  simp only [Nat.add_zero] at hE3
  generalize hF : (if r = true then fullC S C ns SS CS else C) = F at *
  have HF : Hid ((if r = true then fullC S C ns SS CS else C) = F) := hF
  clear hF
  clear hr1 hr2 hR3 hg3 hB2 hzz hEX hRow hAt
  have hmk := run_make_row' (P := Try.prog) 22 9 (.string ByteArray.empty) 16 Try.underlying22 Try.info9 rfl .i64 .i64 N (by omega) (by omega)
  have hmk2 := run_make_row' (P := Try.prog) 23 32 (.int .u64 0) 8 Try.underlying23 Try.info32 rfl .i64 .i64 N (by omega) (by omega)
  go_wp2
  clear hmk hmk2
  go_loopw [32] (fun i wr => ∃ k : Nat, k ≤ N ∧ i = .int .i64 k ∧ Below w3.heap.size w3 wr ∧ wr.rowIs w3.heap.size 9 N (fun j => .string (if j < k then S j else ByteArray.empty)) ∧ wr.rowIs (w3.heap.size + 1) 32 N (fun j => .int .u64 (if j < k then F j else 0))) (fun i _ => N - (intOf i).toNat)
  case atStart =>
    refine ⟨0, Nat.zero_le _, rfl, ((Below.refl _ _).alloc (Nat.le_refl _) _).alloc (by simp) _, ((World.rowIs_made w3 _ N 9).alloc _).congr (fun j _ => by simp), ?_⟩
    have := World.rowIs_made (w3.alloc (.cells (madeCells #[.string ByteArray.empty] N) 9)) (.int .u64 0) N 32
    simp only [Deep.nblk_alloc] at this
    exact this.congr (fun j _ => by simp)
  case round =>
    obtain ⟨k, hk, rfl, hb, hr1, hr2⟩ := hrel
    by_cases hlt : k < N
    · obtain ⟨b, off, rfl, hc⟩ := hE3 (by omega)
      have g1 : wr.cell? ⟨b, off + k * 2, none⟩ = some (.string (S k)) := by
        rw [← (hc k hlt).1]; exact hb.cell (World.block_lt_of_cell? _ _ (hc k hlt).1)
      have g2 : wr.cell? ⟨b, off + k * 2 + 1, none⟩ = some (.int .u64 (F k)) := by
        rw [← (hc k hlt).2]; exact hb.cell (World.block_lt_of_cell? _ _ (hc k hlt).2)
      have hbb : b < w3.heap.size := World.block_lt_of_cell? _ _ (hc k hlt).1
      have s1 := hr1.cell hlt
      have f1 := hr1.frozen k
      have s2 := hr2.cell hlt
      have f2 := hr2.frozen k
      have g2' : ∀ v, (wr.setCell ⟨w3.heap.size, k, none⟩ v).cell? ⟨b, off + k * 2 + 1, none⟩ = some (.int .u64 (F k)) := fun v => by
        rw [World.cell?_setCell_other _ _ _ _ (fun e => by have := congrArg Addr.block e; simp at this; omega)]; exact g2
      have s2' : ∀ v, (wr.setCell ⟨w3.heap.size, k, none⟩ v).cell? ⟨w3.heap.size + 1, k, none⟩ = some (.int .u64 (if k < k then F k else 0)) := fun v => by
        rw [World.cell?_setCell_other _ _ _ _ (fun e => by have := congrArg Addr.block e; simp at this)]; exact s2
      have hkz : (k : Int) < (N : Int) := by omega
      clear hc
      go_wp2
      go_roundw
      case rel =>
        refine ⟨k + 1, by omega, by go_num, (hb.setCell (Nat.le_refl _) _).setCell (by simp) _, ((hr1.set k _).setOther (by simp) _).congr (fun j _ => ?_), ((hr2.setOther (by simp) _).set k _).congr (fun j _ => ?_)⟩
        · by_cases e : j = k
          · subst e; simp
          · have : (j < k + 1) = (j < k) := by simp; omega
            simp [e, this]
        · by_cases e : j = k
          · subst e; simp
          · have : (j < k + 1) = (j < k) := by simp; omega
            simp [e, this]
      case measure => simp [intOf]; omega
    · go_wp2
      go_ret3
      refine ⟨r, _, _, _, _, rfl, HR1.out, HR2.out, fun _ => ⟨w3.heap.size, 0, rfl, fun i hi => ?_⟩, fun _ => ⟨w3.heap.size + 1, 0, rfl, fun i hi => ?_⟩, (fun h => by cases h), (fun h => by cases h), hB3.trans (hb.mono hz3)⟩
      · have := hr1.cell hi
        simp only [Nat.zero_add]
        rw [this, if_pos (by omega)]
      · have := hr2.cell hi
        simp only [Nat.zero_add]
        rw [this, if_pos (by omega), HF.out]
end Go.Proofs.Qxb6605503a
