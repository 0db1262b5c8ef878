/-
  No cell of these rows narrows 'for every input' (looked for: loops, veiled, ifaces, maps, wideKeys, modest, calm, conditions, laid).
  DERIVED. THE GIVEN ROWS OF THIS SEAT. 5 by the template 'for every input the law returns true; each argument reads behind the call as it read before'; 0 by the template 'total and deterministic' (their statements: Qxb6605503aTotals.lean).
  GIVEN WITH THE SEED: the statements are not yours to turn. If you find one false, say at which input.
  Laid BY PROGRAM, IN A SANDBOX (cutbox-rows.mjs): the forced cells as the released guide's own fill.sh prints them over the translation 228b5c17bd5475ab… (all of the seat's roots in one cut). By AI agents, Wed Nov 11 2026. No macro, syntax, notation, axiom, sorry.
-/
import Derived.Test.Qxb6605503aChecked
import GoSem.Claim
import GoSem.ClaimJoined
import GoSem.ClaimMapViews
import Derived.JoinedTies
import Derived.KernelRfl
namespace Go.Proofs.Qxb6605503a
/- THE CELL 'sum', in the pinned program and in every row, IS THE sha256 OF THE DUMP (.gsa) THAT Qxb6605503aProg.lean LOADS. Nothing in Lean hashes anything: it is a label: what it is worth is what the hold of that sum in a sandbox is worth. -/
noncomputable def Try.pinned : Pinned := { name := "qxb6605503a", sum := "228b5c17bd5475abfb5f2746f604b191208a446be3ffa2580fade2edf02f66c5", checked := Try.checked }
namespace Rows
def none {H : Type} : Left H := { results := [], args := [] }

/-- 'zzlaws_root_b1.FnSameHostsIsCommonPrefix': WHATEVER THE INPUT: true; the input reads as it did. -/
def fnSameHostsIsCommonPrefixSpec : ChangeSpec := { name := "fnSameHostsIsCommonPrefix", fn := fun _ => fun
  | [d1, d2, d3, d4] => { results := [.lit (.bool true)], args := [d1, d2, d3, d4] }
  | _ => none }
def fnSameHostsIsCommonPrefixRow : OpenClaim := { program := "qxb6605503a", sum := "228b5c17bd5475abfb5f2746f604b191208a446be3ffa2580fade2edf02f66c5", func := "example.com/beforehand/beforehand/zzlaws_root_b1.FnSameHostsIsCommonPrefix", spec := "fnSameHostsIsCommonPrefix", apart := false }
def FnSameHostsIsCommonPrefixSaid : Prop := fnSameHostsIsCommonPrefixRow.holds Try.pinned (OpenSpec.ofChange fnSameHostsIsCommonPrefixSpec)

/-- ITS FALSE NEIGHBOUR: 'it returns false'. Refute it at one input. -/
def fnSameHostsIsCommonPrefixWrong : ChangeSpec := { name := "fnSameHostsIsCommonPrefix", fn := fun _ => fun
  | [d1, d2, d3, d4] => { results := [.lit (.bool false)], args := [d1, d2, d3, d4] }
  | _ => none }
def FnSameHostsIsCommonPrefixWrongFalsely : Prop := fnSameHostsIsCommonPrefixRow.holds Try.pinned (OpenSpec.ofChange fnSameHostsIsCommonPrefixWrong)

/-- 'zzlaws_root_b1.FnRaiseToMatchesLookupModel': WHATEVER THE INPUT: true; the input reads as it did. -/
def fnRaiseToMatchesLookupModelSpec : ChangeSpec := { name := "fnRaiseToMatchesLookupModel", fn := fun _ => fun
  | [d1, d2, d3, d4] => { results := [.lit (.bool true)], args := [d1, d2, d3, d4] }
  | _ => none }
def fnRaiseToMatchesLookupModelRow : OpenClaim := { program := "qxb6605503a", sum := "228b5c17bd5475abfb5f2746f604b191208a446be3ffa2580fade2edf02f66c5", func := "example.com/beforehand/beforehand/zzlaws_root_b1.FnRaiseToMatchesLookupModel", spec := "fnRaiseToMatchesLookupModel", apart := false }
def FnRaiseToMatchesLookupModelSaid : Prop := fnRaiseToMatchesLookupModelRow.holds Try.pinned (OpenSpec.ofChange fnRaiseToMatchesLookupModelSpec)

/-- ITS FALSE NEIGHBOUR: 'it returns false'. Refute it at one input. -/
def fnRaiseToMatchesLookupModelWrong : ChangeSpec := { name := "fnRaiseToMatchesLookupModel", fn := fun _ => fun
  | [d1, d2, d3, d4] => { results := [.lit (.bool false)], args := [d1, d2, d3, d4] }
  | _ => none }
def FnRaiseToMatchesLookupModelWrongFalsely : Prop := fnRaiseToMatchesLookupModelRow.holds Try.pinned (OpenSpec.ofChange fnRaiseToMatchesLookupModelWrong)

/-- 'zzlaws_root_b1.FnRaiseToIsJoinUnderCompare': WHATEVER THE INPUT: true; the input reads as it did. -/
def fnRaiseToIsJoinUnderCompareSpec : ChangeSpec := { name := "fnRaiseToIsJoinUnderCompare", fn := fun _ => fun
  | [d1, d2, d3, d4] => { results := [.lit (.bool true)], args := [d1, d2, d3, d4] }
  | _ => none }
def fnRaiseToIsJoinUnderCompareRow : OpenClaim := { program := "qxb6605503a", sum := "228b5c17bd5475abfb5f2746f604b191208a446be3ffa2580fade2edf02f66c5", func := "example.com/beforehand/beforehand/zzlaws_root_b1.FnRaiseToIsJoinUnderCompare", spec := "fnRaiseToIsJoinUnderCompare", apart := false }
def FnRaiseToIsJoinUnderCompareSaid : Prop := fnRaiseToIsJoinUnderCompareRow.holds Try.pinned (OpenSpec.ofChange fnRaiseToIsJoinUnderCompareSpec)

/-- ITS FALSE NEIGHBOUR: 'it returns false'. Refute it at one input. -/
def fnRaiseToIsJoinUnderCompareWrong : ChangeSpec := { name := "fnRaiseToIsJoinUnderCompare", fn := fun _ => fun
  | [d1, d2, d3, d4] => { results := [.lit (.bool false)], args := [d1, d2, d3, d4] }
  | _ => none }
def FnRaiseToIsJoinUnderCompareWrongFalsely : Prop := fnRaiseToIsJoinUnderCompareRow.holds Try.pinned (OpenSpec.ofChange fnRaiseToIsJoinUnderCompareWrong)

/-- 'zzlaws_root_b1.FnCompareMatchesLookupModel': WHATEVER THE INPUT: true; the input reads as it did. -/
def fnCompareMatchesLookupModelSpec : ChangeSpec := { name := "fnCompareMatchesLookupModel", fn := fun _ => fun
  | [d1, d2, d3, d4] => { results := [.lit (.bool true)], args := [d1, d2, d3, d4] }
  | _ => none }
def fnCompareMatchesLookupModelRow : OpenClaim := { program := "qxb6605503a", sum := "228b5c17bd5475abfb5f2746f604b191208a446be3ffa2580fade2edf02f66c5", func := "example.com/beforehand/beforehand/zzlaws_root_b1.FnCompareMatchesLookupModel", spec := "fnCompareMatchesLookupModel", apart := false }
def FnCompareMatchesLookupModelSaid : Prop := fnCompareMatchesLookupModelRow.holds Try.pinned (OpenSpec.ofChange fnCompareMatchesLookupModelSpec)

/-- ITS FALSE NEIGHBOUR: 'it returns false'. Refute it at one input. -/
def fnCompareMatchesLookupModelWrong : ChangeSpec := { name := "fnCompareMatchesLookupModel", fn := fun _ => fun
  | [d1, d2, d3, d4] => { results := [.lit (.bool false)], args := [d1, d2, d3, d4] }
  | _ => none }
def FnCompareMatchesLookupModelWrongFalsely : Prop := fnCompareMatchesLookupModelRow.holds Try.pinned (OpenSpec.ofChange fnCompareMatchesLookupModelWrong)

/-- 'zzlaws_root_b1.FnCompareSwapGivesConverse': WHATEVER THE INPUT: true; the input reads as it did. -/
def fnCompareSwapGivesConverseSpec : ChangeSpec := { name := "fnCompareSwapGivesConverse", fn := fun _ => fun
  | [d1, d2, d3, d4] => { results := [.lit (.bool true)], args := [d1, d2, d3, d4] }
  | _ => none }
def fnCompareSwapGivesConverseRow : OpenClaim := { program := "qxb6605503a", sum := "228b5c17bd5475abfb5f2746f604b191208a446be3ffa2580fade2edf02f66c5", func := "example.com/beforehand/beforehand/zzlaws_root_b1.FnCompareSwapGivesConverse", spec := "fnCompareSwapGivesConverse", apart := false }
def FnCompareSwapGivesConverseSaid : Prop := fnCompareSwapGivesConverseRow.holds Try.pinned (OpenSpec.ofChange fnCompareSwapGivesConverseSpec)

/-- ITS FALSE NEIGHBOUR: 'it returns false'. Refute it at one input. -/
def fnCompareSwapGivesConverseWrong : ChangeSpec := { name := "fnCompareSwapGivesConverse", fn := fun _ => fun
  | [d1, d2, d3, d4] => { results := [.lit (.bool false)], args := [d1, d2, d3, d4] }
  | _ => none }
def FnCompareSwapGivesConverseWrongFalsely : Prop := fnCompareSwapGivesConverseRow.holds Try.pinned (OpenSpec.ofChange fnCompareSwapGivesConverseWrong)

end Rows
end Go.Proofs.Qxb6605503a
