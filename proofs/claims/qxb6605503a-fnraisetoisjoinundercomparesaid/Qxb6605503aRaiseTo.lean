import Derived.Test.Qxb6605503aRaise
namespace Go.Proofs.Qxb6605503a
open Go.RowKit

/-- What raiseTo answers and leaves. -/
def RaiseIs (w : World) (bd N : Nat) (S : Nat → ByteArray) (C : Nat → Int) (ns : Nat) (SS : Nat → ByteArray) (CS : Nat → Int) (e : Ending) (w' : World) : Prop :=
  ∃ r : Bool, e = .returned (.bool r) ∧ (r = true → ∀ i, i < ns → ∃ j, j < N ∧ S j = SS i) ∧ (r = false → ∃ i, i < ns ∧ ∀ j, j < N → S j ≠ SS i) ∧
    Row w' bd N S (if r then fullC S C ns SS CS else C) ∧ w.grownBy w' (some bd)

/-- Where the scan stands at its loop's head. -/
structure Head (w : World) (rb N ns : Nat) (S SS : Nat → ByteArray) (k kept restD restS d s : Nat) (rd rs rn : Nat → Nat) (wr : World) : Prop where
  scan : Scan N ns S SS kept restD restS d s rd rs rn
  mem : Mem w rb kept rd rs rn wr
  lcp : IsLcp N ns S SS d s k
  under : Under ns S SS d s
  lt : s < ns

/-- .. and behind the run that it has found. -/
structure Found (w : World) (rb N ns : Nat) (S SS : Nat → ByteArray) (kept restD restS d s : Nat) (rd rs rn : Nat → Nat) (wr : World) : Prop where
  scan : Scan N ns S SS kept restD restS d s rd rs rn
  mem : Mem w rb kept rd rs rn wr
  under : Under ns S SS d s

theorem same_quiet (aa ab : Option Addr) (na nb ca cb : Nat) (A B : Nat → ByteArray) (CA CB : Nat → Int) (w : World) (hA : Ents w aa na A CA) (hB : Ents w ab nb B CB) (hna : na ≤ 1048576) (hnb : nb ≤ 1048576) (hcb : nb ≤ cb) :
    Calls Try.prog 27 #[.slice aa na ca, .slice ab nb cb] w fun e w' => e = .returned (.int .i64 (lcp (min na nb) A B)) ∧ ∃ m, w' = w.drewN m :=
  same_any aa ab na nb ca cb A B CA CB w hA hB hna hnb hcb

theorem grown_none {w w' : World} (h : w.grownBy w' none) (r : Option Nat) : w.grownBy w' r := ⟨h.os, h.tape, h.output, h.size, fun k hk _ => h.block k hk (by simp)⟩
theorem mem_start (w : World) : Mem w w.heap.size 0 (fun _ => 0) (fun _ => 0) (fun _ => 0) (w.alloc (.cells #[.int .i64 0, .int .i64 0, .int .i64 0, .int .i64 0, .int .i64 0, .int .i64 0, .int .i64 0, .int .i64 0, .int .i64 0, .int .i64 0, .int .i64 0, .int .i64 0, .int .i64 0, .int .i64 0, .int .i64 0, .int .i64 0, .int .i64 0, .int .i64 0, .int .i64 0, .int .i64 0, .int .i64 0, .int .i64 0, .int .i64 0, .int .i64 0] 55)) := by
  refine ⟨World.grownBy_alloc _ _ _, by simp, fun _ => 0, ⟨_, Deep.blk_alloc_new _ _, rfl, fun i hi => ?_⟩, fun r hr => by omega⟩
  have : i = 0 ∨ i = 1 ∨ i = 2 ∨ i = 3 ∨ i = 4 ∨ i = 5 ∨ i = 6 ∨ i = 7 ∨ i = 8 ∨ i = 9 ∨ i = 10 ∨ i = 11 ∨ i = 12 ∨ i = 13 ∨ i = 14 ∨ i = 15 ∨ i = 16 ∨ i = 17 ∨ i = 18 ∨ i = 19 ∨ i = 20 ∨ i = 21 ∨ i = 22 ∨ i = 23 := by omega
  rcases this with e | e | e | e | e | e | e | e | e | e | e | e | e | e | e | e | e | e | e | e | e | e | e | e <;> subst e <;> rfl

theorem mem_drewN {w rb kept rd rs rn wr} (h : Mem w rb kept rd rs rn wr) (q : Nat) : Mem w rb kept rd rs rn (wr.drewN q) :=
  ⟨grown_drewN h.1 q, h.2.1, h.2.2⟩
theorem mem_from_drewN {w : World} {rb kept rd rs rn wr} {q : Nat} (h : Mem (w.drewN q) rb kept rd rs rn wr) : Mem w rb kept rd rs rn wr :=
  ⟨⟨h.1.os, h.1.tape, h.1.output, h.1.size, h.1.block⟩, h.2.1, h.2.2⟩
theorem mem_keep {w : World} {rb kept : Nat} {rd rs rn wr} (h : Mem w rb kept rd rs rn wr) (hrb : rb = w.heap.size) (h8 : kept < 8) (d s k : Nat) :
    Mem w rb (kept + 1) (fun r => if r = kept then d else rd r) (fun r => if r = kept then s else rs r) (fun r => if r = kept then k else rn r)
      (((wr.setCell ⟨rb, kept * 3, none⟩ (.int .i64 d)).setCell ⟨rb, kept * 3 + 1, none⟩ (.int .i64 s)).setCell ⟨rb, kept * 3 + 2, none⟩ (.int .i64 k)) := by
  obtain ⟨hg, hz, R, hR, hr⟩ := h
  refine ⟨⟨hg.os, hg.tape, hg.output, by simp [World.setCell, hz], fun j hj _ => ?_⟩, by simp [World.setCell, hz], fun i => if i = kept * 3 + 2 then k else if i = kept * 3 + 1 then s else if i = kept * 3 then d else R i, ?_, fun r hr' => ?_⟩
  · rw [Below.heap_setCell _ _ _ _ (by show j ≠ rb; omega), Below.heap_setCell _ _ _ _ (by show j ≠ rb; omega), Below.heap_setCell _ _ _ _ (by show j ≠ rb; omega)]
    exact hg.block j hj (by simp)
  · refine (((hR.set _ _).set _ _).set _ _).congr (fun j _ => ?_)
    dsimp only
    split
    · rfl
    · split
      · rfl
      · split <;> rfl
  · by_cases e : r = kept
    · subst e
      simp
    · have := hr r (by omega)
      simp only [if_neg e]
      rw [if_neg (by omega), if_neg (by omega), if_neg (by omega), if_neg (by omega), if_neg (by omega), if_neg (by omega), if_neg (by omega), if_neg (by omega), if_neg (by omega)]
      exact this

/-- Where the hosts of src are the first of dst. -/
theorem first_final {N ns S SS C CS} (l : IsLcp N ns S SS 0 0 ns) (so : Sorted N S) (ss : Sorted ns SS) (hC : ∀ j, j < N → 0 ≤ C j) (j : Nat) (hj : j < N) : raised C 0 ns CS j = fullC S C ns SS CS j := by
  have hk := l.kd
  simp only [raised, fullC]
  by_cases g : j < ns
  · have e : S j = SS j := by simpa using l.eq j g
    rw [if_pos (by omega), e, look_hit CS ss g, Nat.sub_zero]
  · rw [if_neg (by omega), look_miss]
    · have := hC j hj; omega
    · intro i hi e
      have e2 : S i = SS i := by simpa using l.eq i hi
      have := so.inj (by omega) hj (e2.trans e)
      omega

theorem arr55 : Try.prog.arrayLen 55 = 8 := by kernel_rfl
theorem und55 : Try.prog.underlying 55 = some (.array (Try.prog.arrayLen 55) (Try.prog.elem 55)) := by kernel_rfl
theorem size55 (w : World) : (sizeOf (Try.prog.elem 55)).run Try.prog w = .ok 3 w := by kernel_rfl
theorem run_slice_runs (b n : Nat) (h : n ≤ 8) (w : World) : (Instr.sliceAt 55 (.pointer (some ⟨b, 0, none⟩)) none (some (.int .i64 (n : Int))) none).run Try.prog w = .ok (.slice (some ⟨b, 0, none⟩) n 8) w := by
  rw [run_sliceAt_array_h w 55 ⟨b, 0, none⟩ und55 .i64 n (by omega) (by rw [arr55]; omega), size55, arr55]
  simp [Result.andThen, slicedAt, Addr.add]

set_option maxHeartbeats 2000000 in
set_option maxRecDepth 100000 in
theorem raise_any (ad az : Option Addr) (bd N cd ns cs : Nat) (S SS : Nat → ByteArray) (C CS : Nat → Int) (w : World) (hR : Row w bd N S C) (ha : At ad bd 0 N) (hcd : N ≤ cd) (hS : EntsX bd w az ns SS CS) (hcs : ns ≤ cs) (hm : N ≤ 1048576) (hm2 : ns ≤ 1048576)
    (so : Sorted N S) (ss : Sorted ns SS) (hC : ∀ j, j < N → 0 ≤ C j) :
    Calls Try.prog 29 #[.slice ad N cd, .slice az ns cs] w (RaiseIs w bd N S C ns SS CS) := by
  have he0 := row_ents hR ha (by omega)
  have HSO : Hid (Sorted N S) := so
  have HSS : Hid (Sorted ns SS) := ss
  have HC : Hid (∀ j, j < N → 0 ≤ C j) := hC
  clear so ss hC
  go_enter Try.func29, Try.ntmps29
  go_wp2_with fail
  refine (same_any ad az N ns cd cs _ _ _ _ w he0 hS.ents hm hm2 hcs).mono ?_
  rintro e w' ⟨rfl, q, rfl⟩
  have HL0 : Hid (IsLcp N ns S SS 0 0 (lcp (min N ns) (fun i => S (i + 0)) SS)) := isLcp_of (Nat.zero_le _) (Nat.zero_le _) rfl
  generalize lcp (min N ns) (fun i => S (i + 0)) SS = k0 at *
  clear he0
  by_cases hk : k0 = ns
  · subst hk
    have HF : Hid (∀ j, j < N → raised C 0 k0 CS j = fullC S C k0 SS CS j) := first_final HL0.out HSO.out HSS.out HC.out
    have hle : k0 ≤ N := by have := HL0.out.kd; omega
    have HSB : Hid (∀ i, i < k0 → ∃ j, j < N ∧ S j = SS i) := fun i hi => ⟨i, by omega, by simpa using HL0.out.eq i hi⟩
    go_wp2_with fail
    refine (run_any ad az bd N 0 N cd k0 cs S SS C CS (w.drewN q) (hR.drewN q) ha hle (by omega) hcd (hS.grown (grown_drewN (grown_refl _ _) q)) hm).mono ?_
    rintro e w2 ⟨rfl, hR2, hg2⟩
    go_wp2
    go_ret
    exact ⟨true, rfl, fun _ => HSB.out, (fun h => by cases h), hR2.congr HF.out, grown_trans (grown_drewN (grown_refl _ _) q) hg2⟩
  · have hkz : ((k0 : Int) == (ns : Int)) = false := beq_eq_false_iff_ne.2 (by omega)
    have hlt0 : 0 < ns := by have := HL0.out.ks; omega
    go_wp2
    go_loopw [5, 7, 8, 9, 10, 11] (fun v5 v7 v8 v9 v10 v11 wr => ∃ (k kept restD restS d s : Nat) (rd rs rn : Nat → Nat), v5 = .int .i64 k ∧ v7 = .int .i64 kept ∧ v8 = .int .i64 restD ∧ v9 = .int .i64 restS ∧ v10 = .int .i64 d ∧ v11 = .int .i64 s ∧
      Head w w.heap.size N ns S SS k kept restD restS d s rd rs rn wr) (fun _ _ _ _ v10 _ _ => N - (intOf v10).toNat)
    case atStart => exact ⟨k0, 0, N, ns, 0, 0, _, _, _, rfl, rfl, rfl, rfl, rfl, rfl, ⟨scan_start N ns S SS, mem_from_drewN (mem_start _), HL0.out, fun _ j hj => by omega, hlt0⟩⟩
    case round =>
      obtain ⟨k, kept, restD, restS, d, s, rd, rs, rn, rfl, rfl, rfl, rfl, rfl, rfl, hH⟩ := hrel
      clear HL0 hk hkz
      have q1 := hH.scan.k8
      have q2 := hH.scan.rS
      have q3 := hH.scan.rD
      have q4 := hH.lcp.kd
      have q5 := hH.lcp.ks
      have q6 := hH.lt
      go_upto_if 29 with fail
      go_cut [7, 8, 9] (fun v7 v8 v9 wc => ∃ (kept' restD' restS' : Nat) (rd' rs' rn' : Nat → Nat), v7 = .int .i64 kept' ∧ v8 = .int .i64 restD' ∧ v9 = .int .i64 restS' ∧ Found w w.heap.size N ns S SS kept' restD' restS' (d + k) (s + k) rd' rs' rn' wc)
      case first =>
        by_cases h0 : 0 < k
        · have h0z : (0 : Int) < (k : Int) := by omega
          by_cases h8 : kept < 8
          · have h8z : (kept : Int) < 8 := by omega
            obtain ⟨_, _, R, hRow, _⟩ := hH.mem
            have g0 := hRow.cell (i := kept * 3) (by omega)
            have g1 := hRow.cell (i := kept * 3 + 1) (by omega)
            have g2 := hRow.cell (i := kept * 3 + 2) (by omega)
            have f0 := hRow.frozen (kept * 3)
            have f1 := hRow.frozen (kept * 3 + 1)
            have f2 := hRow.frozen (kept * 3 + 2)
            go_wp2
            go_meet
            case rel => exact ⟨kept + 1, restD, restS, _, _, _, by go_num, rfl, rfl, hH.scan.keep hH.lcp h8 h0, mem_keep hH.mem rfl h8 d s k, hH.under.run HSS.out hH.lcp⟩
          · have h8z : ¬ (kept : Int) < 8 := by omega
            by_cases hr : restS = ns
            · have hrz : ((restS : Int) == (ns : Int)) = true := beq_iff_eq.2 (by omega)
              have HF : Hid (Found w w.heap.size N ns S SS kept d s (d + k) (s + k) rd rs rn wr) := ⟨(hH.scan.rests hr hH.lt).over hH.lcp hH.lt, hH.mem, hH.under.run HSS.out hH.lcp⟩
              clear hr
              go_wp2
              go_meet
              case rel => exact ⟨kept, d, s, _, _, _, rfl, rfl, rfl, HF.out⟩
            · have hrz : ((restS : Int) == (ns : Int)) = false := beq_eq_false_iff_ne.2 (by omega)
              go_wp2
              go_meet
              case rel => exact ⟨kept, restD, restS, _, _, _, rfl, rfl, rfl, hH.scan.over hH.lcp (by omega), hH.mem, hH.under.run HSS.out hH.lcp⟩
        · have h0z : ¬ (0 : Int) < (k : Int) := by omega
          have HF : Hid (Found w w.heap.size N ns S SS kept restD restS (d + k) (s + k) rd rs rn wr) := by
            obtain rfl : k = 0 := by omega
            exact ⟨hH.scan, hH.mem, hH.under⟩
          go_wp2
          go_meet
          case rel => exact ⟨kept, restD, restS, _, _, _, rfl, rfl, rfl, HF.out⟩
      case rest =>
        obtain ⟨kept', restD', restS', rd', rs', rn', rfl, rfl, rfl, hF⟩ := hcut
        have hne := hH.lcp.ne
        have HNE : Hid (d + k < N → s + k < ns → S (d + k) ≠ SS (s + k)) := hne
        clear hne hH q1 q2 q3
        have hgw := hF.mem.1
        by_cases hs : s + k = ns
        · have hsz : ((s : Int) + (k : Int) == (ns : Int)) = true := beq_iff_eq.2 (by omega)
          obtain ⟨_, hzc, R, hRow, hRR⟩ := hF.mem
          have HSC : Hid (Scan N ns S SS kept' restD' restS' (d + k) ns rd' rs' rn') := by rw [← hs]; rw [hs]; have := hF.scan; rwa [hs] at this
          have k8 : kept' ≤ 8 := hF.scan.k8
          have HRR : Hid (∀ r, r < kept' → R (r * 3) = rd' r ∧ R (r * 3 + 1) = rs' r ∧ R (r * 3 + 2) = rn' r) := hRR
          clear hs hRR
          have hsl := run_slice_runs w.heap.size kept' k8
          go_wp2
          clear hsl
          go_loopw [91] (fun v wr => ∃ r : Nat, r ≤ kept' ∧ v = .int .i64 r ∧ ∃ Cur, Row wr bd N S Cur ∧ Mid N ns S SS C CS rd' rn' r Cur ∧ wr.rowIs w.heap.size 55 24 (fun i => .int .i64 (R i)) ∧ w.grownBy wr (some bd)) (fun v _ => kept' - (intOf v).toNat)
          case atStart => exact ⟨0, Nat.zero_le _, rfl, C, (fun h => (hR h).of_block (hgw.block bd (hR h).lt (by simp))), mid_start _ _ _ _ _ _ _ _, hRow, grown_none hgw _⟩
          case round =>
            obtain ⟨r, hr, rfl, Cur, hRr, hMid, hRw, hgr⟩ := hrel
            by_cases hlt : r < kept'
            · have hrz : (r : Int) < (kept' : Int) := by omega
              have g0 := hRw.cell (i := r * 3) (by omega)
              have g1 := hRw.cell (i := r * 3 + 1) (by omega)
              have g2 := hRw.cell (i := r * 3 + 2) (by omega)
              obtain ⟨e0, e1, e2⟩ := HRR.out r hlt
              rw [e0] at g0
              rw [e1] at g1
              rw [e2] at g2
              clear e0 e1 e2
              obtain ⟨x0, x1, x2, x3⟩ := HSC.out.runs r hlt
              have HX3 : Hid (∀ t, t < rn' r → S (rd' r + t) = SS (rs' r + t)) := x3
              clear x3
              have hbd : bd < w.heap.size := (hR (by omega)).lt
              have hzr : w.heap.size < wr.heap.size := hRw.lt
              have hEX := hS.grown hgr
              go_wp2
              have c0 : (wr.alloc (Obj.cells #[.int .i64 (rd' r : Int), .int .i64 (rs' r : Int), .int .i64 (rn' r : Int)] 54)).cell? ⟨wr.heap.size, 0, none⟩ = some (.int .i64 (rd' r : Int)) := by simp [go_sem]
              have c1 : (wr.alloc (Obj.cells #[.int .i64 (rd' r : Int), .int .i64 (rs' r : Int), .int .i64 (rn' r : Int)] 54)).cell? ⟨wr.heap.size, 1, none⟩ = some (.int .i64 (rs' r : Int)) := by simp [go_sem]
              have c2 : (wr.alloc (Obj.cells #[.int .i64 (rd' r : Int), .int .i64 (rs' r : Int), .int .i64 (rn' r : Int)] 54)).cell? ⟨wr.heap.size, 2, none⟩ = some (.int .i64 (rn' r : Int)) := by simp [go_sem]
              have hga : wr.grownBy (wr.alloc (Obj.cells #[.int .i64 (rd' r : Int), .int .i64 (rs' r : Int), .int .i64 (rn' r : Int)] 54)) none := World.grownBy_alloc _ _ _
              generalize wr.alloc (Obj.cells #[.int .i64 (rd' r : Int), .int .i64 (rs' r : Int), .int .i64 (rn' r : Int)] 54) = wA at *
              have hRA : Row wA bd N S Cur := fun h => (hRr h).of_block (hga.block bd (hRr h).lt (by simp))
              have hAt : At (Option.map (fun x => x.add (rd' r * 2)) ad) bd (rd' r) (N - rd' r) := by
                have := ha.drop (rd' r) cd (by omega) hcd
                rwa [if_neg (by omega), Nat.zero_add] at this
              have hEA : EntsX bd wA (Option.map (fun x => x.add (rs' r * 2)) az) (rn' r) (fun i => SS (i + rs' r)) (fun i => CS (i + rs' r)) := by
                have := ((hEX.grown (grown_none hga _)).drop (rs' r) cs (by omega) hcs).take (rn' r) (by omega)
                rwa [if_neg (by omega)] at this
              have i1 : (0 : Int) ≤ (rd' r : Int) := by omega
              have i2 : (rd' r : Int) ≤ (N : Int) := by omega
              have i3 : (0 : Int) ≤ (rs' r : Int) := by omega
              have i4 : (rs' r : Int) ≤ (rs' r : Int) + (rn' r : Int) := by omega
              have i5 : (rs' r : Int) + (rn' r : Int) ≤ (cs : Int) := by omega
              have i8 : IntKind.i64.wrap ((rs' r : Int) + (rn' r : Int)) = (rs' r : Int) + (rn' r : Int) := by rw [IntKind.wrap_i64]; omega
              have i6 : cd ≠ rd' r := by omega
              have i7 : cs ≠ rs' r := by omega
              have hne : wr.heap.size ≠ bd := by omega
              have HM2 : Hid (Mid N ns S SS C CS rd' rn' (r + 1) (raised Cur (rd' r) (rn' r) (fun i => CS (i + rs' r)))) := hMid.step HSS.out rs' x1 x2 HX3.out
              have HRW : Hid (wA.rowIs w.heap.size 55 24 (fun i => .int .i64 (R i))) := hRw.of_block (hga.block _ hRw.lt (by simp))
              have HGR : Hid (w.grownBy wA (some bd)) := grown_trans hgr (grown_none hga _)
              clear g0 g1 g2 hEX hga hRr hMid hRw hgr hRow hgw hF
              go_region_held3 (fun w' => w'.cell? ⟨wr.heap.size, 0, none⟩ = some (.int .i64 (rd' r : Int)) ∧ w'.cell? ⟨wr.heap.size, 1, none⟩ = some (.int .i64 (rs' r : Int)) ∧ w'.cell? ⟨wr.heap.size, 2, none⟩ = some (.int .i64 (rn' r : Int))) (go_keep)
                (first | (go_at_call 34; rw [show ((rs' r : Int) + (rn' r : Int)).toNat - rs' r = rn' r from by omega]; refine (run_any _ _ bd N (rd' r) (N - rd' r) (cd - rd' r) (rn' r) (cs - rs' r) S (fun i => SS (i + rs' r)) Cur (fun i => CS (i + rs' r)) wA.drew hRA hAt (by omega) (by omega) (by omega) hEA hm).mono ?_; rintro e w2 ⟨rfl, hR2, hg2⟩; have d0 := hg2.cell c0 (by simpa using hne); have d1 := hg2.cell c1 (by simpa using hne); have d2 := hg2.cell c2 (by simpa using hne)))
              go_wp2
              go_roundw
              case rel => exact ⟨r + 1, by omega, by go_num, _, hR2, HM2.out, rowIs_grown (w := wA.drew) HRW.out hg2 (by omega), grown_trans (grown_drew HGR.out) hg2⟩
              case measure => simp [intOf]; omega
            · obtain rfl : r = kept' := by omega
              have j1 := HSC.out.rS
              have j2 := HSC.out.rD
              have hAt : At (if cd = restD' then ad else Option.map (fun x => x.add (restD' * 2)) ad) bd restD' (N - restD') := by
                have := ha.drop restD' cd j2 hcd
                rwa [Nat.zero_add] at this
              have hEA := (hS.grown hgr).drop restS' cs j1 hcs
              have HFin : Hid (∀ j, j < N → heldC S Cur (ns - restS') (fun i => SS (i + restS')) (fun i => CS (i + restS')) restD' j = fullC S C ns SS CS j) := scan_final HSC.out hMid HSO.out HSS.out HC.out
              have hC2 : Hid (∀ j, j < N → 0 ≤ Cur j) := fun j hj => by
                have := HC.out j hj
                rcases hMid.or j hj with e | e <;> rw [e]
                · exact this
                · simp only [fullC]; omega
              have hsub : Hid (∀ i, i < ns - restS' → ∃ j, restD' ≤ j ∧ j < N ∧ S j = SS (i + restS')) := fun i hi => HSC.out.loc (i + restS') (by omega) (by omega)
              have i1 : (0 : Int) ≤ (restD' : Int) := by omega
              have i2 : (restD' : Int) ≤ (N : Int) := by omega
              have i3 : (0 : Int) ≤ (restS' : Int) := by omega
              have i4 : (restS' : Int) ≤ (ns : Int) := by omega
              have HSB : Hid (∀ i, i < ns → ∃ j, j < N ∧ S j = SS i) := HSC.out.sub
              clear hMid hRw hRow hgw hF
              obtain ⟨a0', h0'⟩ : ∃ a0', (if cd = restD' then ad else Option.map (fun x => x.add (restD' * 2)) ad) = a0' := ⟨_, rfl⟩
              obtain ⟨a1', h1'⟩ : ∃ a1', (if cs = restS' then az else Option.map (fun x => x.add (restS' * 2)) az) = a1' := ⟨_, rfl⟩
              rw [h0'] at hAt
              rw [h1'] at hEA
              go_wp2
              go_region_held3 (fun _ => True) (exact trivial)
                (first | (go_at_call 35; refine (held_any a0' a1' bd N restD' (N - restD') (cd - restD') (ns - restS') (cs - restS') S (fun i => SS (i + restS')) Cur (fun i => CS (i + restS')) wr.drew hRr hAt (by omega) (by omega) hEA (by omega) hm (by omega) HSO.out (HSS.out.drop restS') hC2.out hsub.out).mono ?_; rintro e w2 ⟨rfl, hR2, hg2⟩))
              go_wp2
              go_ret
              exact ⟨true, rfl, fun _ => HSB.out, (fun h => by cases h), hR2.congr HFin.out, grown_trans (grown_drew hgr) hg2⟩
        · have hsz : ((s : Int) + (k : Int) == (ns : Int)) = false := beq_eq_false_iff_ne.2 (by omega)
          have hRc : Row wc bd N S C := fun h => (hR h).of_block (hgw.block bd (hR h).lt (by simp))
          by_cases hd : d + k = N
          · have hdz : ((d : Int) + (k : Int) == (N : Int)) = true := beq_iff_eq.2 (by omega)
            have HX : Hid (∃ i, i < ns ∧ ∀ j, j < N → S j ≠ SS i) := ⟨s + k, by omega, hF.under.lacks HSO.out (by omega) (fun h => by omega)⟩
            clear hd hs
            go_wp2
            go_quiet (fail)
            go_wp2
            go_ret
            exact ⟨false, rfl, (fun h => by cases h), fun _ => HX.out, hRc.drewN _, grown_drewN (grown_none hgw _) _⟩
          · have hdz : ((d : Int) + (k : Int) == (N : Int)) = false := beq_eq_false_iff_ne.2 (by omega)
            obtain rfl := ha (by omega)
            have g0 := (hRc (by omega)).cell (i := (d + k) * 2) (by omega)
            rw [entF_even] at g0
            obtain ⟨bs, os, rfl, hbs, hcs2⟩ := (hS.grown (grown_none hgw _)) (by omega)
            have g1 := (hcs2 (s + k) (by omega)).1
            have hE2 : Ents wc (some ⟨bs, os + (s + k) * 2, none⟩) (ns - (s + k)) (fun i => SS (i + (s + k))) (fun i => CS (i + (s + k))) := fun _ => ⟨bs, _, rfl, fun i hi => by
              have := hcs2 (i + (s + k)) (by omega)
              rwa [show os + (i + (s + k)) * 2 = os + (s + k) * 2 + i * 2 from by omega] at this⟩
            clear hcs2
            have e0 : ((S (d + k)).toList == (SS (s + k)).toList) = false := beq_eq_false_iff_ne.2 (fun h => HNE.out (by omega) (by omega) (toList_inj h))
            have r0 : (d : Int) + (k : Int) < (N : Int) := by omega
            have r1 : (s : Int) + (k : Int) < (ns : Int) := by omega
            cases hl : Op.bytesLess (S (d + k)).toList (SS (s + k)).toList
            · have HX : Hid (∃ i, i < ns ∧ ∀ j, j < N → S j ≠ SS i) := ⟨s + k, by omega, hF.under.lacks HSO.out (by omega) (fun _ => ltS_tri hl (HNE.out (by omega) (by omega)))⟩
              go_wp2
              go_quiet (fail)
              go_wp2
              go_ret
              exact ⟨false, rfl, (fun h => by cases h), fun _ => HX.out, hRc.drewN _, grown_drewN (grown_none hgw _) _⟩
            · have hU : Under ns S SS (d + k + 1) (s + k) := hF.under.next (fun _ => hl)
              go_wp2
              go_quiet (fail)
              go_wp2
              go_quiet ((go_at_call 27; refine quiet_at (same_quiet _ _ _ _ _ _ (fun i => S (i + (d + k + 1))) (fun i => SS (i + (s + k))) (fun i => C (i + (d + k + 1))) (fun i => CS (i + (s + k))) _ (row_ents (hRc.drewN _) ?_ ?_) hE2 ?_ ?_ ?_); (intro _; rw [if_neg (by omega)]); omega; omega; omega; omega))
              go_wp2
              go_roundw
              case rel => exact ⟨_, kept', restD', restS', d + k + 1, s + k, rd', rs', rn', rfl, rfl, rfl, rfl, by go_num, by go_num, hF.scan.next (by omega), mem_drewN (mem_drewN hF.mem _) _, isLcp_of (by omega) (by omega) rfl, hU, by omega⟩
              case measure => simp [intOf]; omega
end Go.Proofs.Qxb6605503a
