/-
  No cell of these rows narrows 'for every input' (looked for: loops, veiled, ifaces, maps, wideKeys, modest, calm, conditions, laid).
  DERIVED. THE GIVEN ROWS OF THIS SEAT. 4 by the template 'for every input the law returns true; each argument reads behind the call as it read before'; 0 by the template 'total and deterministic' (their statements: Qxb6605551aTotals.lean).
  GIVEN WITH THE SEED: the statements are not yours to turn. If you find one false, say at which input.
  Laid BY PROGRAM, IN A SANDBOX (cutbox-rows.mjs): the forced cells as the released guide's own fill.sh prints them over the translation d74f99dfd77168ec… (all of the seat's roots in one cut). By AI agents, Wed Nov 11 2026. No macro, syntax, notation, axiom, sorry.
-/
import Derived.Test.Qxb6605551aChecked
import GoSem.Claim
import GoSem.ClaimJoined
import GoSem.ClaimMapViews
import Derived.JoinedTies
import Derived.KernelRfl
namespace Go.Proofs.Qxb6605551a
/- THE CELL 'sum', in the pinned program and in every row, IS THE sha256 OF THE DUMP (.gsa) THAT Qxb6605551aProg.lean LOADS. Nothing in Lean hashes anything: it is a label: what it is worth is what the hold of that sum in a sandbox is worth. -/
noncomputable def Try.pinned : Pinned := { name := "qxb6605551a", sum := "d74f99dfd77168ecca015f1efba9ab942d5679b9b5bbf35a718de7992ce5b742", checked := Try.checked }
namespace Rows
def none {H : Type} : Left H := { results := [], args := [] }

/-- 'zzlaws_root_b1.FnPackOrderIsStableSortByOffset': WHATEVER THE INPUT: true; the input reads as it did. -/
def fnPackOrderIsStableSortByOffsetSpec : ChangeSpec := { name := "fnPackOrderIsStableSortByOffset", fn := fun _ => fun
  | [d] => { results := [.lit (.bool true)], args := [d] }
  | _ => none }
def fnPackOrderIsStableSortByOffsetRow : OpenClaim := { program := "qxb6605551a", sum := "d74f99dfd77168ecca015f1efba9ab942d5679b9b5bbf35a718de7992ce5b742", func := "example.com/packwright/packwright/zzlaws_root_b1.FnPackOrderIsStableSortByOffset", spec := "fnPackOrderIsStableSortByOffset", unfollowed := true, recurses := true, apart := false }
def FnPackOrderIsStableSortByOffsetSaid : Prop := fnPackOrderIsStableSortByOffsetRow.holds Try.pinned (OpenSpec.ofChange fnPackOrderIsStableSortByOffsetSpec)

/-- ITS FALSE NEIGHBOUR: 'it returns false'. Refute it at one input. -/
def fnPackOrderIsStableSortByOffsetWrong : ChangeSpec := { name := "fnPackOrderIsStableSortByOffset", fn := fun _ => fun
  | [d] => { results := [.lit (.bool false)], args := [d] }
  | _ => none }
def FnPackOrderIsStableSortByOffsetWrongFalsely : Prop := fnPackOrderIsStableSortByOffsetRow.holds Try.pinned (OpenSpec.ofChange fnPackOrderIsStableSortByOffsetWrong)

/-- 'zzlaws_root_b1.FnReadCopyMatchesFieldTable': WHATEVER THE INPUT: true; the input reads as it did. -/
def fnReadCopyMatchesFieldTableSpec : ChangeSpec := { name := "fnReadCopyMatchesFieldTable", fn := fun _ => fun
  | [d] => { results := [.lit (.bool true)], args := [d] }
  | _ => none }
def fnReadCopyMatchesFieldTableRow : OpenClaim := { program := "qxb6605551a", sum := "d74f99dfd77168ecca015f1efba9ab942d5679b9b5bbf35a718de7992ce5b742", func := "example.com/packwright/packwright/zzlaws_root_b1.FnReadCopyMatchesFieldTable", spec := "fnReadCopyMatchesFieldTable", apart := false }
def FnReadCopyMatchesFieldTableSaid : Prop := fnReadCopyMatchesFieldTableRow.holds Try.pinned (OpenSpec.ofChange fnReadCopyMatchesFieldTableSpec)

/-- ITS FALSE NEIGHBOUR: 'it returns false'. Refute it at one input. -/
def fnReadCopyMatchesFieldTableWrong : ChangeSpec := { name := "fnReadCopyMatchesFieldTable", fn := fun _ => fun
  | [d] => { results := [.lit (.bool false)], args := [d] }
  | _ => none }
def FnReadCopyMatchesFieldTableWrongFalsely : Prop := fnReadCopyMatchesFieldTableRow.holds Try.pinned (OpenSpec.ofChange fnReadCopyMatchesFieldTableWrong)

/-- 'zzlaws_root_b1.FnReadCopyInvertsEncoder': WHATEVER THE INPUT: true; the input reads as it did. -/
def fnReadCopyInvertsEncoderSpec : ChangeSpec := { name := "fnReadCopyInvertsEncoder", fn := fun _ => fun
  | [d1, d2, d3, d4] => { results := [.lit (.bool true)], args := [d1, d2, d3, d4] }
  | _ => none }
def fnReadCopyInvertsEncoderRow : OpenClaim := { program := "qxb6605551a", sum := "d74f99dfd77168ecca015f1efba9ab942d5679b9b5bbf35a718de7992ce5b742", func := "example.com/packwright/packwright/zzlaws_root_b1.FnReadCopyInvertsEncoder", spec := "fnReadCopyInvertsEncoder", apart := false }
def FnReadCopyInvertsEncoderSaid : Prop := fnReadCopyInvertsEncoderRow.holds Try.pinned (OpenSpec.ofChange fnReadCopyInvertsEncoderSpec)

/-- ITS FALSE NEIGHBOUR: 'it returns false'. Refute it at one input. -/
def fnReadCopyInvertsEncoderWrong : ChangeSpec := { name := "fnReadCopyInvertsEncoder", fn := fun _ => fun
  | [d1, d2, d3, d4] => { results := [.lit (.bool false)], args := [d1, d2, d3, d4] }
  | _ => none }
def FnReadCopyInvertsEncoderWrongFalsely : Prop := fnReadCopyInvertsEncoderRow.holds Try.pinned (OpenSpec.ofChange fnReadCopyInvertsEncoderWrong)

/-- 'zzlaws_root_b1.FnOwnDataKeepsEachEntryAndOwnsItsData': WHATEVER THE INPUT: true; the input reads as it did. -/
def fnOwnDataKeepsEachEntryAndOwnsItsDataSpec : ChangeSpec := { name := "fnOwnDataKeepsEachEntryAndOwnsItsData", fn := fun _ => fun
  | [d1, d2, d3, d4, d5] => { results := [.lit (.bool true)], args := [d1, d2, d3, d4, d5] }
  | _ => none }
def fnOwnDataKeepsEachEntryAndOwnsItsDataRow : OpenClaim := { program := "qxb6605551a", sum := "d74f99dfd77168ecca015f1efba9ab942d5679b9b5bbf35a718de7992ce5b742", func := "example.com/packwright/packwright/zzlaws_root_b1.FnOwnDataKeepsEachEntryAndOwnsItsData", spec := "fnOwnDataKeepsEachEntryAndOwnsItsData", apart := false }
def FnOwnDataKeepsEachEntryAndOwnsItsDataSaid : Prop := fnOwnDataKeepsEachEntryAndOwnsItsDataRow.holds Try.pinned (OpenSpec.ofChange fnOwnDataKeepsEachEntryAndOwnsItsDataSpec)

/-- ITS FALSE NEIGHBOUR: 'it returns false'. Refute it at one input. -/
def fnOwnDataKeepsEachEntryAndOwnsItsDataWrong : ChangeSpec := { name := "fnOwnDataKeepsEachEntryAndOwnsItsData", fn := fun _ => fun
  | [d1, d2, d3, d4, d5] => { results := [.lit (.bool false)], args := [d1, d2, d3, d4, d5] }
  | _ => none }
def FnOwnDataKeepsEachEntryAndOwnsItsDataWrongFalsely : Prop := fnOwnDataKeepsEachEntryAndOwnsItsDataRow.holds Try.pinned (OpenSpec.ofChange fnOwnDataKeepsEachEntryAndOwnsItsDataWrong)

end Rows
end Go.Proofs.Qxb6605551a
