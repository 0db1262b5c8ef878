import Derived.Test.Qxb6605503aHeld
import Derived.Test.Qxb6605503aScan
import Derived.Deep.DeepCutAuto
import Derived.Deep.RegionHeld3
namespace Go.Proofs.Qxb6605503a
open Go.RowKit

theorem Mid.step {N ns S SS C CS rd rn r Cur} (h : Mid N ns S SS C CS rd rn r Cur) (ss : Sorted ns SS) (rs : Nat → Nat) (hd : rd r + rn r ≤ N) (hs : rs r + rn r ≤ ns) (he : ∀ t, t < rn r → S (rd r + t) = SS (rs r + t)) :
    Mid N ns S SS C CS rd rn (r + 1) (raised Cur (rd r) (rn r) (fun i => CS (i + rs r))) := by
  have key : ∀ t, t < rn r → raised Cur (rd r) (rn r) (fun i => CS (i + rs r)) (rd r + t) = fullC S C ns SS CS (rd r + t) := by
    intro t ht
    simp only [raised]
    rw [if_pos (by omega), show rd r + t - rd r = t from by omega]
    have hl : look ns SS CS (S (rd r + t)) = CS (t + rs r) := by rw [he t ht, look_hit CS ss (by omega), Nat.add_comm]
    rcases h.or (rd r + t) (by omega) with e | e
    · rw [e, fullC, hl]
    · rw [e, fullC, hl]; omega
  refine ⟨fun j hj => ?_, fun q hq t ht => ?_⟩
  · by_cases g : rd r ≤ j ∧ j < rd r + rn r
    · right
      have := key (j - rd r) (by omega)
      rwa [show rd r + (j - rd r) = j from by omega] at this
    · simp only [raised]
      rw [if_neg g]
      exact h.or j hj
  · by_cases g : rd r ≤ rd q + t ∧ rd q + t < rd r + rn r
    · have := key (rd q + t - rd r) (by omega)
      rwa [show rd r + (rd q + t - rd r) = rd q + t from by omega] at this
    · by_cases e : q = r
      · subst e; omega
      · simp only [raised]
        rw [if_neg g]
        exact h.done q (by omega) t ht

theorem scan_final {N ns S SS C CS kept restD restS d rd rs rn Cur} (h : Scan N ns S SS kept restD restS d ns rd rs rn) (m : Mid N ns S SS C CS rd rn kept Cur) (so : Sorted N S) (ss : Sorted ns SS) (hC : ∀ j, j < N → 0 ≤ C j) (j : Nat) (hj : j < N) :
    heldC S Cur (ns - restS) (fun i => SS (i + restS)) (fun i => CS (i + restS)) restD j = fullC S C ns SS CS j := by
  have hrS := h.rS
  rcases look_cases ns SS CS (S j) with ⟨i, hi, e, el⟩ | ⟨hm, el⟩
  · have hF : fullC S C ns SS CS j = max (C j) (CS i) := by rw [fullC, el]
    by_cases g : i < restS
    · -- covered by a run that is kept
      rcases h.cov i hi with ⟨r, hr, h1, h2⟩ | h1
      · obtain ⟨_, b1, b2, b3⟩ := h.runs r hr
        have e3 := b3 (i - rs r) (by omega)
        rw [show rs r + (i - rs r) = i from by omega, e] at e3
        have ej := so.inj (by omega) hj e3
        have hd := m.done r hr (i - rs r) (by omega)
        rw [ej] at hd
        have hz : look (ns - restS) (fun i => SS (i + restS)) (fun i => CS (i + restS)) (S j) = 0 := by
          apply look_miss
          intro i' hi' e'
          have := ss.inj (by omega) hi (e'.trans e.symm)
          omega
        simp only [heldC]
        rw [hz, hd]
        have := hC j hj
        split <;> omega
      · omega
    · -- found by raiseHeld
      obtain ⟨j', h1, h2, h3⟩ := h.loc i (by omega) hi
      have ej := so.inj h2 hj (h3.trans e)
      subst ej
      have hz : look (ns - restS) (fun i => SS (i + restS)) (fun i => CS (i + restS)) (S j') = CS i := by
        have := look_hit (fun i => CS (i + restS)) (ss.drop restS) (i := i - restS) (by omega)
        simp only [show i - restS + restS = i from by omega, e] at this
        exact this
      simp only [heldC]
      rw [if_pos h1, hz, hF]
      rcases m.or j' hj with e4 | e4 <;> rw [e4]
      rw [hF]; omega
  · have hF : fullC S C ns SS CS j = C j := by rw [fullC, el]; have := hC j hj; omega
    have hz : look (ns - restS) (fun i => SS (i + restS)) (fun i => CS (i + restS)) (S j) = 0 := look_miss _ _ _ _ (fun i' hi' => hm (i' + restS) (by omega))
    have hcur : Cur j = C j := by rcases m.or j hj with e4 | e4 <;> rw [e4]; exact hF
    simp only [heldC]
    rw [hz, hF, hcur]
    have := hC j hj
    split <;> omega

theorem rowIs_grown {w w' : World} {b bd t n : Nat} {f : Nat → Value} (h : w.rowIs b t n f) (hg : w.grownBy w' (some bd)) (hb : b ≠ bd) : w'.rowIs b t n f :=
  h.of_block (hg.block b h.lt (by simpa using hb))
theorem Row.grown_other {w w' : World} {b bd N S C} (h : Row w bd N S C) (hg : w.grownBy w' (some b)) (hb : bd ≠ b) : Row w' bd N S C := fun hN =>
  (h hN).of_block (hg.block bd (h hN).lt (by simpa using hb))

/-- The runs that are kept lie in block rb; nothing else has turned. -/
def Mem (w : World) (rb kept : Nat) (rd rs rn : Nat → Nat) (wr : World) : Prop :=
  w.grownBy wr none ∧ wr.heap.size = w.heap.size + 1 ∧ ∃ R : Nat → Int, wr.rowIs rb 55 24 (fun i => .int .i64 (R i)) ∧ ∀ r, r < kept → R (r * 3) = rd r ∧ R (r * 3 + 1) = rs r ∧ R (r * 3 + 2) = rn r
end Go.Proofs.Qxb6605503a
