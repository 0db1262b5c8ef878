import Derived.Test.Qxb6605503aSame
import Derived.Test.Qxb6605503aEnts
import Derived.Test.Qxb6605503aClone
import Derived.Test.Qxb6605503aSizes
namespace Go.Proofs.Qxb6605503a
open Go.RowKit

def IntBelow (w : World) (k : Nat) (e : Ending) (w' : World) : Prop := e = .returned (.int .i64 k) ∧ Below w.heap.size w w'

theorem GotEnts.ents {w : World} {n S C e w'} (h : GotEnts w n S C e w') : ∃ a' c', e = .returned (.slice a' n c') ∧ Ents w' a' n S C ∧ n ≤ c' ∧ Below w.heap.size w w' := by
  obtain ⟨a', c', rfl, h, hc, hb⟩ := h
  refine ⟨a', c', rfl, ?_, hc, hb⟩
  rcases h with h | ⟨b, _, rfl, _, hr⟩
  · intro h0; omega
  · exact ents_of_row hr

theorem zzsame_any (a1 a2 a3 a4 : Option Addr) (n1 n3 c1 c2 c3 c4 : Nat) (S1 S3 : Nat → ByteArray) (C2 C4 : Nat → Int) (w : World) (h1 : Strs w a1 n1 S1) (h2 : Cnts w a2 n1 C2) (h3 : Strs w a3 n3 S3) (h4 : Cnts w a4 n3 C4)
    (z1 : a1 = none → n1 = 0) (z3 : a3 = none → n3 = 0) (m1 : n1 ≤ 1048576) (m3 : n3 ≤ 1048576) :
    Calls Try.prog 12 #[.slice a1 n1 c1, .slice a2 n1 c2, .slice a3 n3 c3, .slice a4 n3 c4] w (IntBelow w (lcp (min n1 n3) S1 S3)) := by
  go_enter Try.func12, Try.ntmps12
  go_wp2_with fail
  refine (entries_any a1 a2 n1 c1 c2 S1 C2 w h1 h2 z1 m1).mono ?_
  intro e w1 hg
  obtain ⟨b1, d1, rfl, he1, hc1, hb1⟩ := hg.ents
  clear hg
  go_wp2_with fail
  refine (entries_any a3 a4 n3 c3 c4 S3 C4 w1 (h3.below hb1) (h4.below hb1) z3 m3).mono ?_
  intro e w2 hg
  obtain ⟨b2, d2, rfl, he2, hc2, hb2⟩ := hg.ents
  clear hg
  go_wp2_with fail
  refine (same_any b1 b2 n1 n3 d1 d2 S1 S3 C2 C4 w2 (he1.below hb2) he2 m1 m3 hc2).mono ?_
  rintro e w3 ⟨rfl, q, rfl⟩
  go_wp2
  go_ret
  exact ⟨rfl, (hb1.trans (hb2.mono hb1.size)).trans (below_drewN _ _ _)⟩
end Go.Proofs.Qxb6605503a
