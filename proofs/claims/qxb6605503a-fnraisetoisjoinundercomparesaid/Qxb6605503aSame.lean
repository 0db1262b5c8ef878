import Derived.Test.Qxb6605503aSameA
import Derived.Test.Qxb6605503aSameB
namespace Go.Proofs.Qxb6605503a
open Go.RowKit

theorem same_any (aa ab : Option Addr) (na nb ca cb : Nat) (A B : Nat → ByteArray) (CA CB : Nat → Int) (w : World) (hA : Ents w aa na A CA) (hB : Ents w ab nb B CB) (hna : na ≤ 1048576) (hnb : nb ≤ 1048576) (hcb : nb ≤ cb) :
    Calls Try.prog 27 #[.slice aa na ca, .slice ab nb cb] w (SameIs w (lcp (min na nb) A B)) := by
  by_cases h : na ≤ nb
  · rw [Nat.min_eq_left h]
    exact same_le aa ab na nb ca cb A B CA CB w hA hB hna hnb hcb h
  · rw [Nat.min_eq_right (by omega)]
    exact same_gt aa ab na nb ca cb A B CA CB w hA hB hna hnb hcb (by omega)
end Go.Proofs.Qxb6605503a
