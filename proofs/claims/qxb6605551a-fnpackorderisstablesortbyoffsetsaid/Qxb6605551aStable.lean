import Derived.Test.Qxb6605551aPack
namespace Go.Proofs.Qxb6605551a
open Go.RowKit

set_option maxHeartbeats 1000000 in
theorem zzorder_any (a : Option Addr) (n c : Nat) (Z : Nat → Int) (w : World) (hS : Ints .i64 w a n Z) (hn : n ≤ 65536) (hz : ∀ i, 0 ≤ Z i ∧ Z i ≤ 9223372036854775807) :
    Calls Try.prog 9 #[.slice a n c] w (OrderIs w n Z) := by
  have HZ : Hid (∀ i, 0 ≤ Z i ∧ Z i ≤ 9223372036854775807) := hz
  clear hz
  have hB : Below w.heap.size w (w.alloc (Obj.cells #[.int .u8 0, .slice none 0 0, .slice none 0 0, .slice a n c, .slice none 0 0] 50)) := (Below.refl _ _).alloc (Nat.le_refl _) _
  have hx : (w.alloc (Obj.cells #[.int .u8 0, .slice none 0 0, .slice none 0 0, .slice a n c, .slice none 0 0] 50)).cell? ⟨w.heap.size, 3, none⟩ = some (.slice a n c) := by simp [go_sem]
  go_enter Try.func9, Try.ntmps9
  go_wp2_with fail
  generalize w.alloc (Obj.cells #[.int .u8 0, .slice none 0 0, .slice none 0 0, .slice a n c, .slice none 0 0] 50) = wA at *
  refine (order_any w.heap.size a n c Z wA hx (hS.below hB) hn HZ.out).mono ?_
  rintro e w1 ⟨a', c', L, rfl, s1, hp, hs, hb⟩
  have HR : Hid (OrderIs w n Z (.returned (.slice a' n c')) w1) := ⟨a', c', L, rfl, s1, hp, hs, hB.trans (hb.mono hB.size)⟩
  clear s1 hp hs hb hx hB
  go_wp2
  go_ret
  exact HR.out

theorem Try.info4 : (Try.prog.info? 4).map (fun i => (i.zero, i.size, i.bytes)) = some (some (.bool false), 1, 1) := by kernel_rfl

set_option maxHeartbeats 4000000 in
set_option maxRecDepth 100000 in
theorem stable_any (a : Option Addr) (n c : Nat) (Z : Nat → Int) (w : World) (hS : Ints .i64 w a n Z) (ha : a = none → n = 0) (hz : ∀ i, -9223372036854775808 ≤ Z i ∧ Z i ≤ 9223372036854775807) (hz0 : ∀ i, n ≤ i → 0 ≤ Z i) (hm : n ≤ maxLen) :
    Calls Try.prog 3 #[.slice a n c] w fun e w' => e = .returned (.bool true) ∧ Below w.heap.size w w' := by
  have HZ : Hid (∀ i, -9223372036854775808 ≤ Z i ∧ Z i ≤ 9223372036854775807) := hz
  have HZ0 : Hid (∀ i, n ≤ i → 0 ≤ Z i) := hz0
  clear hz hz0
  go_enter Try.func3, Try.ntmps3
  go_wp2_with fail
  refine (bytes7 a n c w hm).mono ?_
  rintro e w' ⟨r, rfl, hw', hr⟩
  subst w'
  cases r with
  | false =>
    go_wp2
    go_ret
    exact ⟨rfl, Below.refl _ _⟩
  | true =>
  have hm' := hr rfl
  clear hr hm
  by_cases h1 : (65536 : Int) < n
  · go_wp2
    go_ret
    exact ⟨rfl, Below.refl _ _⟩
  go_wp2
  go_loop [3] (fun v => ∃ k : Nat, k ≤ n ∧ v = .int .i64 k ∧ ∀ i, i < k → 0 ≤ Z i) (fun v => n - (intOf v).toNat)
  case atStart => exact ⟨0, Nat.zero_le _, rfl, fun i hi => by omega⟩
  case round =>
    obtain ⟨k, hk, rfl, hpos⟩ := hrel
    have HPOS : Hid (∀ i, i < k → 0 ≤ Z i) := hpos
    clear hpos
    by_cases hkn : k < n
    · obtain ⟨b, off, rfl, hc⟩ := hS (by omega)
      have g := hc k hkn
      clear hc
      have hkz : (k : Int) < (n : Int) := by omega
      by_cases hneg : Z k < 0
      · go_wp2
        go_ret
        exact ⟨rfl, Below.refl _ _⟩
      · go_wp2
        go_round
        case rel =>
          refine ⟨k + 1, by omega, by go_num, fun i hi => ?_⟩
          rcases Nat.lt_or_ge i k with g1 | g1
          · exact HPOS.out i g1
          · obtain rfl : i = k := by omega
            omega
        case measure => simp [intOf]; omega
    · obtain rfl : k = n := by omega
      have HZZ : Hid (∀ i, 0 ≤ Z i ∧ Z i ≤ 9223372036854775807) := fun i => by
        rcases Nat.lt_or_ge i k with g1 | g1
        · exact ⟨HPOS.out i g1, (HZ.out i).2⟩
        · exact ⟨HZ0.out i g1, (HZ.out i).2⟩
      clear HZ HZ0 HPOS
      go_wp2_with fail
      refine (clone_i64 a k c Z w hS ha (by omega)).mono ?_
      rintro e w1 ⟨a1, c1, rfl, s1, _, _, b1⟩
      go_wp2_with fail
      refine (zzorder_any a1 k c1 Z w1 s1 (by omega) HZZ.out).mono ?_
      rintro e w2 ⟨a2, c2, L, rfl, s2, hperm, hsort, b2⟩
      have HPM : Hid (L.Perm (List.range k)) := hperm
      have HST : Hid (L.Pairwise (fun r q => Z r < Z q ∨ (Z r = Z q ∧ r < q))) := hsort
      have HND : Hid L.Nodup := hperm.nodup_iff.2 List.nodup_range
      have HLEN : Hid (L.length = k) := (by rw [hperm.length_eq, List.length_range] : L.length = k)
      clear hperm hsort
      replace s1 := s1.below b2
      have B2 : Below w.heap.size w w2 := b1.trans (b2.mono b1.size)
      have hz2 := B2.size
      clear b1 b2
      have hmk := run_make_row' (P := Try.prog) 27 4 (.bool false) 1 Try.underlying27 Try.info4 rfl .i64 .i64 k (by omega) (by omega)
      go_wp2
      clear hmk
      go_loopw [7] (fun v wr => ∃ m : Nat, m ≤ k ∧ v = .int .i64 m ∧ Below w2.heap.size w2 wr ∧ wr.rowIs w2.heap.size 4 k (fun r => .bool (decide (r ∈ L.take m)))) (fun v _ => k - (intOf v).toNat)
      case atStart => exact ⟨0, Nat.zero_le _, rfl, (Below.refl _ _).alloc (Nat.le_refl _) _, (World.rowIs_made w2 _ k 4).congr (fun r _ => by simp)⟩
      case round =>
        obtain ⟨m, hmk, rfl, hb, hrow⟩ := hrel
        by_cases hmn : m < k
        · have hml : m < L.length := by rw [HLEN.out]; exact hmn
          obtain ⟨r, hr⟩ : ∃ r, r = L.getD m 0 := ⟨_, rfl⟩
          have hrk : r = L[m] := by rw [hr, List.getD_eq_getElem?_getD, List.getElem?_eq_getElem hml]; rfl
          have hrq : r < k := by
            have : r ∈ List.range k := HPM.out.mem_iff.1 (by rw [hrk]; exact List.getElem_mem hml)
            simpa using this
          obtain ⟨b2, o2, rfl, hc2⟩ := s2 (by omega)
          have g2 : wr.cell? ⟨b2, o2 + m, none⟩ = some (.int .u32 (r : Int)) := by
            have : w2.cell? ⟨b2, o2 + m, none⟩ = some (.int .u32 ((L.getD m 0 : Nat) : Int)) := hc2 m hmn
            rw [← hr] at this
            rw [← this]; exact hb.cell (World.block_lt_of_cell? _ _ this)
          clear hc2
          have hnot : decide (r ∈ L.take m) = false := by
            rw [decide_eq_false_iff_not, hrk]
            intro hin
            have hnd := HND.out
            rw [← List.take_append_drop m L, List.nodup_append] at hnd
            exact hnd.2.2 _ hin _ (by rw [List.drop_eq_getElem_cons hml]; exact List.mem_cons_self) rfl
          have cs := hrow.cell hrq
          rw [hnot] at cs
          have fs := hrow.frozen r
          have hmz : (m : Int) < (k : Int) := by omega
          have hrz : (r : Int) < (k : Int) := by omega
          have HSTEP : Hid (∀ x, (if x = r then Value.bool true else Value.bool (decide (x ∈ L.take m))) = .bool (decide (x ∈ L.take (m + 1)))) := fun x => by
            rw [List.take_succ_eq_append_getElem hml, ← hrk]
            by_cases ex : x = r
            · subst ex; simp
            · simp [ex]
          clear hr hrk hnot hml
          go_wp2
          go_roundw
          case rel => exact ⟨m + 1, by omega, by go_num, hb.setCell (Nat.le_refl _) _, (hrow.set r _).congr (fun x _ => HSTEP.out x)⟩
          case measure => simp [intOf]; omega
        · obtain rfl : m = k := by omega
          have B3 : Below w.heap.size w wr := B2.trans (hb.mono hz2)
          have s1' := s1.below hb
          have s2' := s2.below hb
          clear hrow s1 s2 B2 hb
          go_wp2
          go_loopw [9] (fun v wx => ∃ i : Nat, i ≤ m ∧ v = .int .i64 i ∧ ∃ q, wx = wr.drewN q) (fun v _ => m - (intOf v).toNat)
          case atStart => exact ⟨0, Nat.zero_le _, rfl, 0, rfl⟩
          case round =>
            obtain ⟨i, hi, rfl, q, rfl⟩ := hrel
            by_cases hi1 : i + 1 < m
            · have hil : i < L.length := by rw [HLEN.out]; omega
              have hil1 : i + 1 < L.length := by rw [HLEN.out]; omega
              obtain ⟨r, hr⟩ : ∃ r, r = L.getD i 0 := ⟨_, rfl⟩
              obtain ⟨r1, hr1⟩ : ∃ r, r = L.getD (i + 1) 0 := ⟨_, rfl⟩
              have hrk : r = L[i] := by rw [hr, List.getD_eq_getElem?_getD, List.getElem?_eq_getElem hil]; rfl
              have hrk1 : r1 = L[i + 1] := by rw [hr1, List.getD_eq_getElem?_getD, List.getElem?_eq_getElem hil1]; rfl
              have hrm : r < m := by
                have : r ∈ List.range m := HPM.out.mem_iff.1 (by rw [hrk]; exact List.getElem_mem hil)
                simpa using this
              have hrm1 : r1 < m := by
                have : r1 ∈ List.range m := HPM.out.mem_iff.1 (by rw [hrk1]; exact List.getElem_mem hil1)
                simpa using this
              have hord : Z r < Z r1 ∨ (Z r = Z r1 ∧ r < r1) := by
                rw [hrk, hrk1]
                exact List.pairwise_iff_getElem.1 HST.out i (i + 1) hil hil1 (by omega)
              obtain ⟨b1, o1, rfl, hc1⟩ := s1' (by omega)
              obtain ⟨b2, o2, rfl, hc2⟩ := s2' (by omega)
              have g1 := hc1 r hrm
              have g2 := hc1 r1 hrm1
              have g3 : wr.cell? ⟨b2, o2 + i, none⟩ = some (.int .u32 (r : Int)) := by rw [hr]; exact hc2 i (by omega)
              have g4 : wr.cell? ⟨b2, o2 + (i + 1), none⟩ = some (.int .u32 (r1 : Int)) := by rw [hr1]; exact hc2 (i + 1) hi1
              have z1 := HZZ.out r
              have z2 := HZZ.out r1
              have i1 : (i : Int) < (m : Int) := by omega
              have i2 : (i : Int) + 1 < (m : Int) := by omega
              have r2 : (r : Int) < (m : Int) := by omega
              have r3 : (r1 : Int) < (m : Int) := by omega
              clear hc1 hc2 hr hr1 hrk hrk1 hil hil1
              generalize Z r = A at *
              generalize Z r1 = C at *
              by_cases heq : A = C
              · subst heq
                have hrr : ¬ (r1 : Int) ≤ (r : Int) := by omega
                clear hord
                go_wp2
                go_quiet (fail)
                go_wp2
                go_roundw
                case rel => exact ⟨i + 1, by omega, by go_num, _, rfl⟩
                case measure => simp [intOf]; omega
              · have heq' : (A == C) = false := beq_eq_false_iff_ne.2 heq
                have hlt' : ¬ C < A := by omega
                clear hord
                go_wp2
                go_quiet (fail)
                go_wp2
                go_roundw
                case rel => exact ⟨i + 1, by omega, by go_num, _, rfl⟩
                case measure => simp [intOf]; omega
            · have hi1z : ¬ (i : Int) + 1 < (m : Int) := by omega
              go_wp2
              go_ret
              exact ⟨rfl, B3.trans (below_drewN _ _ _)⟩
end Go.Proofs.Qxb6605551a
