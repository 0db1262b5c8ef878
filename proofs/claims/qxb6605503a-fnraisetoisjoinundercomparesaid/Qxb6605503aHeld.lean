import Derived.Test.Qxb6605503aRun
import Derived.Test.Qxb6605503aSame
namespace Go.Proofs.Qxb6605503a
open Go.RowKit

/-- The counts of the hosts o .. o+d-1 raised to src's. -/
def midC (S : Nat → ByteArray) (C : Nat → Int) (ns : Nat) (SS : Nat → ByteArray) (CS : Nat → Int) (o d j : Nat) : Int :=
  if o ≤ j ∧ j < o + d then max (C j) (look ns SS CS (S j)) else C j

/-- What raiseHeld leaves. -/
def heldC (S : Nat → ByteArray) (C : Nat → Int) (ns : Nat) (SS : Nat → ByteArray) (CS : Nat → Int) (o j : Nat) : Int := if o ≤ j then max (C j) (look ns SS CS (S j)) else C j

/-- Where raiseHeld stands: d entries of dst and s of src are behind it. -/
structure HeldInv (w : World) (bd N o nd ns : Nat) (S SS : Nat → ByteArray) (C CS : Nat → Int) (wr : World) (d s : Nat) (a0 : Option Addr) (n0 c0 : Nat) (a1 : Option Addr) (n1 c1 : Nat) : Prop where
  hd : d + n0 = nd
  hs : s + n1 = ns
  at0 : At a0 bd (o + d) n0
  k0 : n0 ≤ c0
  ents : EntsX bd wr a1 n1 (fun i => SS (i + s)) (fun i => CS (i + s))
  k1 : n1 ≤ c1
  row : Row wr bd N S (midC S C ns SS CS o d)
  grown : w.grownBy wr (some bd)
  inv1 : ∀ i, i < s → ∃ j, j < o + d ∧ S j = SS i
  inv2 : ∀ i, s ≤ i → i < ns → ∃ j, o + d ≤ j ∧ j < N ∧ S j = SS i

theorem HeldInv.run {w bd N o nd ns S SS C CS wr d s a0 n0 c0 a1 n1 c1} (h : HeldInv w bd N o nd ns S SS C CS wr d s a0 n0 c0 a1 n1 c1) (ss : Sorted ns SS)
    (k : Nat) (hk0 : k ≤ n0) (hk1 : k ≤ n1) (he : ∀ i, i < k → S (i + (o + d)) = SS (i + s)) {w2 : World} (hR : Row w2 bd N S (raised (midC S C ns SS CS o d) (o + d) k (fun i => CS (i + s)))) (hg : wr.grownBy w2 (some bd)) :
    HeldInv w bd N o nd ns S SS C CS w2 (d + k) (s + k) (if c0 = k then a0 else a0.map (·.add (k * 2))) (n0 - k) (c0 - k) (if c1 = k then a1 else a1.map (·.add (k * 2))) (n1 - k) (c1 - k) := by
  have h1 := h.hd; have h2 := h.hs; have h3 := h.k0; have h4 := h.k1
  refine ⟨by omega, by omega, ?_, by omega, ?_, by omega, ?_, grown_trans h.grown hg, ?_, ?_⟩
  · have := h.at0.drop k c0 hk0 h3
    rwa [show o + d + k = o + (d + k) from by omega] at this
  · have := (h.ents.grown hg).drop k c1 hk1 h4
    simp only [show ∀ i, i + k + s = i + (s + k) from fun i => by omega] at this
    exact this
  · refine hR.congr (fun j hj => ?_)
    simp only [raised, midC]
    by_cases g1 : o + d ≤ j ∧ j < o + d + k
    · have e := he (j - (o + d)) (by omega)
      rw [show j - (o + d) + (o + d) = j from by omega] at e
      rw [if_pos g1, if_neg (by omega), if_pos (by omega), e, look_hit CS ss (by omega)]
    · rw [if_neg g1]
      by_cases g2 : o ≤ j ∧ j < o + d
      · rw [if_pos g2, if_pos (by omega)]
      · rw [if_neg g2, if_neg (by omega)]
  · intro i hi
    by_cases g : i < s
    · obtain ⟨j, hj, e⟩ := h.inv1 i g
      exact ⟨j, by omega, e⟩
    · have e := he (i - s) (by omega)
      rw [show i - s + s = i from by omega] at e
      exact ⟨_, by omega, e⟩
  · intro i hi hin
    obtain ⟨j, hj, hjN, e⟩ := h.inv2 i (by omega) hin
    refine ⟨j, ?_, hjN, e⟩
    apply Classical.byContradiction
    intro hc
    have e2 := he (j - (o + d)) (by omega)
    rw [show j - (o + d) + (o + d) = j from by omega, e] at e2
    have := ss.inj hin (by omega) e2
    omega

theorem HeldInv.skip {w bd N o nd ns S SS C CS wr d s a0 n0 c0 a1 n1 c1} (h : HeldInv w bd N o nd ns S SS C CS wr d s a0 n0 c0 a1 n1 c1) (hN : o + nd = N) (so : Sorted N S) (ss : Sorted ns SS) (hC : ∀ j, j < N → 0 ≤ C j)
    (h1 : 0 < n1) (hne : 0 < n0 → S (o + d) ≠ SS s) {w2 : World} (hR : Row w2 bd N S (midC S C ns SS CS o d)) (hg : wr.grownBy w2 (some bd)) :
    0 < n0 ∧ HeldInv w bd N o nd ns S SS C CS w2 (d + 1) s (if c0 = 1 then a0 else a0.map (·.add (1 * 2))) (n0 - 1) (c0 - 1) a1 n1 c1 := by
  have e1 := h.hd; have e2 := h.hs; have e3 := h.k0; have e4 := h.k1
  obtain ⟨j0, hj0, hjN0, ej0⟩ := h.inv2 s (Nat.le_refl _) (by omega)
  have hn0 : 0 < n0 := by omega
  have hne := hne hn0
  have hnot : ∀ i, i < ns → SS i ≠ S (o + d) := by
    intro i hi e
    by_cases g : i < s
    · obtain ⟨j, hj, ej⟩ := h.inv1 i g
      have := so.inj (by omega) (by omega) (ej.trans e)
      omega
    · by_cases g2 : i = s
      · subst g2; exact hne e.symm
      · -- SS s < SS i = S (o + d), yet SS s lies at j0 >= o + d
        have l1 := ss.lt' (show s < i by omega) hi
        rw [e, ← ej0] at l1
        rcases Nat.lt_or_ge (o + d) j0 with g3 | g3
        · have l2 := so.lt' g3 hjN0
          rw [ltS_asymm l2] at l1; cases l1
        · obtain rfl : j0 = o + d := by omega
          rw [ltS_irrefl] at l1; cases l1
  refine ⟨hn0, by omega, by omega, ?_, by omega, h.ents.grown hg, e4, ?_, grown_trans h.grown hg, ?_, ?_⟩
  · have := h.at0.drop 1 c0 hn0 e3
    rwa [show o + d + 1 = o + (d + 1) from by omega] at this
  · refine hR.congr (fun j hj => ?_)
    simp only [midC]
    by_cases g2 : o ≤ j ∧ j < o + d
    · rw [if_pos g2, if_pos (by omega)]
    · rw [if_neg g2]
      by_cases g3 : j = o + d
      · subst g3
        rw [if_pos (by omega), look_miss _ _ _ _ hnot]
        have := hC (o + d) (by omega)
        omega
      · rw [if_neg (by omega)]
  · intro i hi
    obtain ⟨j, hj, e⟩ := h.inv1 i hi
    exact ⟨j, by omega, e⟩
  · intro i hi hin
    obtain ⟨j, hj, hjN, e⟩ := h.inv2 i hi hin
    refine ⟨j, ?_, hjN, e⟩
    rcases Nat.lt_or_ge (o + d) j with g | g
    · omega
    · obtain rfl : j = o + d := by omega
      exact absurd e.symm (hnot i hin)

theorem HeldInv.drewN {w bd N o nd ns S SS C CS wr d s a0 n0 c0 a1 n1 c1} (h : HeldInv w bd N o nd ns S SS C CS wr d s a0 n0 c0 a1 n1 c1) (q : Nat) : HeldInv w bd N o nd ns S SS C CS (wr.drewN q) d s a0 n0 c0 a1 n1 c1 :=
  ⟨h.hd, h.hs, h.at0, h.k0, h.ents, h.k1, h.row, grown_drewN h.grown q, h.inv1, h.inv2⟩

/-- Where all of src is behind it, the rest of dst has none of its hosts. -/
theorem HeldInv.done {w bd N o nd ns S SS C CS wr d s a0 n0 c0 a1 c1} (h : HeldInv w bd N o nd ns S SS C CS wr d s a0 n0 c0 a1 0 c1) (so : Sorted N S) (hC : ∀ j, j < N → 0 ≤ C j) (j : Nat) (hj : j < N) : midC S C ns SS CS o d j = heldC S C ns SS CS o j := by
  have e1 := h.hs; have e2 := h.hd
  simp only [midC, heldC]
  by_cases g : o ≤ j ∧ j < o + d
  · rw [if_pos g, if_pos g.1]
  · rw [if_neg g]
    by_cases g2 : o ≤ j
    · rw [if_pos g2, look_miss]
      · have := hC j hj; omega
      · intro i hi e
        obtain ⟨j', hj', e'⟩ := h.inv1 i (by omega)
        have := so.inj (by omega) hj (e'.trans e)
        omega
    · rw [if_neg g2]

def lenOf : Value → Nat | .slice _ n _ => n | _ => 0


set_option maxHeartbeats 1000000 in
theorem held_any (ad az : Option Addr) (bd N o nd cd ns cs : Nat) (S SS : Nat → ByteArray) (C CS : Nat → Int) (w : World) (hR : Row w bd N S C) (ha : At ad bd o nd) (hN : o + nd = N) (hcd : nd ≤ cd) (hS : EntsX bd w az ns SS CS) (hcs : ns ≤ cs) (hm : N ≤ 1048576) (hm2 : ns ≤ 1048576)
    (so : Sorted N S) (ss : Sorted ns SS) (hC : ∀ j, j < N → 0 ≤ C j) (hsub : ∀ i, i < ns → ∃ j, o ≤ j ∧ j < N ∧ S j = SS i) :
    Calls Try.prog 35 #[.slice ad nd cd, .slice az ns cs] w (RunIs w bd N S (heldC S C ns SS CS o)) := by
  have HSO : Hid (Sorted N S) := so
  have HSS : Hid (Sorted ns SS) := ss
  have HC : Hid (∀ j, j < N → 0 ≤ C j) := hC
  have H0 : Hid (HeldInv w bd N o nd ns S SS C CS w 0 0 ad nd cd az ns cs) := by
    refine ⟨by omega, by omega, ha, hcd, hS, hcs, hR.congr (fun j _ => by simp only [midC]; rw [if_neg (by omega)]), grown_refl _ _, fun i hi => by omega, fun i _ hi => hsub i hi⟩
  have HN : Hid (o + nd = N) := hN
  have hN' : o + nd ≤ N := by omega
  clear so ss hC hsub hR ha hS hN hcd hcs
  go_enter Try.func35, Try.ntmps35
  go_wp2
  go_loopw [0, 1] (fun v0 v1 wr => ∃ (d s : Nat) (a0 : Option Addr) (n0 c0 : Nat) (a1 : Option Addr) (n1 c1 : Nat), v0 = .slice a0 n0 c0 ∧ v1 = .slice a1 n1 c1 ∧ HeldInv w bd N o nd ns S SS C CS wr d s a0 n0 c0 a1 n1 c1) (fun v0 v1 _ => lenOf v0 + lenOf v1)
  case atStart => exact ⟨0, 0, ad, nd, cd, az, ns, cs, rfl, rfl, H0.out⟩
  case round =>
    obtain ⟨d, s, a0, n0, c0, a1, n1, c1, rfl, rfl, hI⟩ := hrel
    have q1 : n0 ≤ nd := by have := hI.hd; omega
    have q2 : n1 ≤ ns := by have := hI.hs; omega
    have q3 : n0 ≤ c0 := hI.k0
    have q4 : n1 ≤ c1 := hI.k1
    by_cases h1 : 0 < n1
    · have he0 := row_ents hI.row hI.at0 (by have := hI.hd; omega)
      go_wp2_with fail
      refine (same_any a0 a1 n0 n1 c0 c1 _ _ _ _ wr he0 hI.ents.ents (by omega) (by omega) q4).mono ?_
      rintro e w' ⟨rfl, q, rfl⟩
      have hl := lcp_spec (min n0 n1) (fun i => S (i + (o + d))) (fun i => SS (i + s))
      generalize lcp (min n0 n1) (fun i => S (i + (o + d))) (fun i => SS (i + s)) = k at *
      have HL : Hid (k ≤ min n0 n1 ∧ (∀ i, i < k → S (i + (o + d)) = SS (i + s)) ∧ (k < min n0 n1 → S (k + (o + d)) ≠ SS (k + s))) := hl
      have l1 : k ≤ n0 := by omega
      have l2 : k ≤ n1 := by omega
      clear hl
      go_wp2_with fail
      refine (run_any a0 a1 bd N (o + d) n0 c0 k c1 S (fun i => SS (i + s)) (midC S C ns SS CS o d) (fun i => CS (i + s)) (wr.drewN q) (hI.row.drewN q) hI.at0 l1 (by have := hI.hd; omega) q3 ((hI.ents.take k l2).grown (grown_drewN (grown_refl _ _) q)) hm).mono ?_
      rintro e w2 ⟨rfl, hR2, hg2⟩
      have hI2 := hI.run HSS.out k l1 l2 HL.out.2.1 hR2 (grown_trans (grown_drewN (grown_refl _ _) q) hg2)
      clear hI hR2 hg2 he0
      go_wp2
      go_quiet (fail)
      generalize (if c0 = k then a0 else Option.map (fun x => x.add (k * 2)) a0) = a0' at *
      generalize (if c1 = k then a1 else Option.map (fun x => x.add (k * 2)) a1) = a1' at *
      by_cases h2 : 0 < n1 - k
      · obtain ⟨p0, hI3⟩ := hI2.skip HN.out HSO.out HSS.out HC.out h2 (fun h => by have := HL.out.2.2 (by omega); rwa [show o + (d + k) = k + (o + d) from by omega, show s + k = k + s from by omega]) (w2 := w2) hI2.row (grown_refl _ _)
        have r1 : (0 : Int) < ((n1 - k : Nat) : Int) := by omega
        have r2 : (1 : Int) ≤ ((n0 - k : Nat) : Int) := by omega
        go_wp2
        go_roundw
        case rel => exact ⟨d + k + 1, s + k, _, _, _, _, _, _, rfl, rfl, hI3.drewN _⟩
        case measure => first | (simp [lenOf]; omega) | (simp only [lenOf]; omega)
      · go_wp2
        go_roundw
        case rel => exact ⟨d + k, s + k, _, _, _, _, _, _, rfl, rfl, hI2.drewN _⟩
        case measure => first | (simp [lenOf]; omega) | (simp only [lenOf]; omega)
    · obtain rfl : n1 = 0 := by omega
      have HD : Hid (∀ j, j < N → midC S C ns SS CS o d j = heldC S C ns SS CS o j) := hI.done HSO.out HC.out
      have hF := hI.row
      have hG := hI.grown
      go_wp2
      go_end0
      exact ⟨rfl, hF.congr (fun j hj => HD.out j hj), hG⟩
end Go.Proofs.Qxb6605503a
