/-
  No cell of these rows narrows 'for every input' (looked for: loops, veiled, ifaces, maps, wideKeys, modest, calm, conditions, laid).
  DERIVED. THE GIVEN ROWS OF THIS SEAT. 4 by the template 'for every input the law returns true; each argument reads behind the call as it read before'; 0 by the template 'total and deterministic' (their statements: Qxb6603816aTotals.lean).
  GIVEN WITH THE SEED: the statements are not yours to turn. If you find one false, say at which input.
  Laid BY PROGRAM, IN A SANDBOX (cutbox-rows.mjs): the forced cells as the released guide's own fill.sh prints them over the translation ab81f414024a5b39… (all of the seat's roots in one cut). By AI agents, Wed Nov 11 2026. No macro, syntax, notation, axiom, sorry.
-/
import Derived.Test.Qxb6603816aChecked
import GoSem.Claim
import GoSem.ClaimJoined
import GoSem.ClaimMapViews
import Derived.JoinedTies
import Derived.KernelRfl
namespace Go.Proofs.Qxb6603816a
/- THE CELL 'sum', in the pinned program and in every row, IS THE sha256 OF THE DUMP (.gsa) THAT Qxb6603816aProg.lean LOADS. Nothing in Lean hashes anything: it is a label: what it is worth is what the hold of that sum in a sandbox is worth. -/
noncomputable def Try.pinned : Pinned := { name := "qxb6603816a", sum := "ab81f414024a5b3965de462c1262b86708313ac05eff7e5130fe6c36773d35b4", checked := Try.checked }
namespace Rows
def none {H : Type} : Left H := { results := [], args := [] }

/-- 'zzlaws_pkg_dns_b1.FnSplitValueListMatchesParityModel': WHATEVER THE INPUT: true; the input reads as it did. -/
def fnSplitValueListMatchesParityModelSpec : ChangeSpec := { name := "fnSplitValueListMatchesParityModel", fn := fun _ => fun
  | [d] => { results := [.lit (.bool true)], args := [d] }
  | _ => none }
def fnSplitValueListMatchesParityModelRow : OpenClaim := { program := "qxb6603816a", sum := "ab81f414024a5b3965de462c1262b86708313ac05eff7e5130fe6c36773d35b4", func := "example.com/zonewright/zonewright/zzlaws_pkg_dns_b1.FnSplitValueListMatchesParityModel", spec := "fnSplitValueListMatchesParityModel", apart := false }
def FnSplitValueListMatchesParityModelSaid : Prop := fnSplitValueListMatchesParityModelRow.holds Try.pinned (OpenSpec.ofChange fnSplitValueListMatchesParityModelSpec)

/-- ITS FALSE NEIGHBOUR: 'it returns false'. Refute it at one input. -/
def fnSplitValueListMatchesParityModelWrong : ChangeSpec := { name := "fnSplitValueListMatchesParityModel", fn := fun _ => fun
  | [d] => { results := [.lit (.bool false)], args := [d] }
  | _ => none }
def FnSplitValueListMatchesParityModelWrongFalsely : Prop := fnSplitValueListMatchesParityModelRow.holds Try.pinned (OpenSpec.ofChange fnSplitValueListMatchesParityModelWrong)

/-- 'zzlaws_pkg_dns_b1.FnSplitValueListInvertsEscapedJoin': WHATEVER THE INPUT: true; the input reads as it did. -/
def fnSplitValueListInvertsEscapedJoinSpec : ChangeSpec := { name := "fnSplitValueListInvertsEscapedJoin", fn := fun _ => fun
  | [d] => { results := [.lit (.bool true)], args := [d] }
  | _ => none }
def fnSplitValueListInvertsEscapedJoinRow : OpenClaim := { program := "qxb6603816a", sum := "ab81f414024a5b3965de462c1262b86708313ac05eff7e5130fe6c36773d35b4", func := "example.com/zonewright/zonewright/zzlaws_pkg_dns_b1.FnSplitValueListInvertsEscapedJoin", spec := "fnSplitValueListInvertsEscapedJoin", apart := false }
def FnSplitValueListInvertsEscapedJoinSaid : Prop := fnSplitValueListInvertsEscapedJoinRow.holds Try.pinned (OpenSpec.ofChange fnSplitValueListInvertsEscapedJoinSpec)

/-- ITS FALSE NEIGHBOUR: 'it returns false'. Refute it at one input. -/
def fnSplitValueListInvertsEscapedJoinWrong : ChangeSpec := { name := "fnSplitValueListInvertsEscapedJoin", fn := fun _ => fun
  | [d] => { results := [.lit (.bool false)], args := [d] }
  | _ => none }
def FnSplitValueListInvertsEscapedJoinWrongFalsely : Prop := fnSplitValueListInvertsEscapedJoinRow.holds Try.pinned (OpenSpec.ofChange fnSplitValueListInvertsEscapedJoinWrong)

/-- 'zzlaws_pkg_dns_b1.FnAppendSortKeyIsReversedFoldedLabels': WHATEVER THE INPUT: true; the input reads as it did. -/
def fnAppendSortKeyIsReversedFoldedLabelsSpec : ChangeSpec := { name := "fnAppendSortKeyIsReversedFoldedLabels", fn := fun _ => fun
  | [d1, d2] => { results := [.lit (.bool true)], args := [d1, d2] }
  | _ => none }
def fnAppendSortKeyIsReversedFoldedLabelsRow : OpenClaim := { program := "qxb6603816a", sum := "ab81f414024a5b3965de462c1262b86708313ac05eff7e5130fe6c36773d35b4", func := "example.com/zonewright/zonewright/zzlaws_pkg_dns_b1.FnAppendSortKeyIsReversedFoldedLabels", spec := "fnAppendSortKeyIsReversedFoldedLabels", apart := false }
def FnAppendSortKeyIsReversedFoldedLabelsSaid : Prop := fnAppendSortKeyIsReversedFoldedLabelsRow.holds Try.pinned (OpenSpec.ofChange fnAppendSortKeyIsReversedFoldedLabelsSpec)

/-- ITS FALSE NEIGHBOUR: 'it returns false'. Refute it at one input. -/
def fnAppendSortKeyIsReversedFoldedLabelsWrong : ChangeSpec := { name := "fnAppendSortKeyIsReversedFoldedLabels", fn := fun _ => fun
  | [d1, d2] => { results := [.lit (.bool false)], args := [d1, d2] }
  | _ => none }
def FnAppendSortKeyIsReversedFoldedLabelsWrongFalsely : Prop := fnAppendSortKeyIsReversedFoldedLabelsRow.holds Try.pinned (OpenSpec.ofChange fnAppendSortKeyIsReversedFoldedLabelsWrong)

/-- 'zzlaws_pkg_dns_b1.FnAppendSortKeyOrdersAsCanonical': WHATEVER THE INPUT: true; the input reads as it did. -/
def fnAppendSortKeyOrdersAsCanonicalSpec : ChangeSpec := { name := "fnAppendSortKeyOrdersAsCanonical", fn := fun _ => fun
  | [d1, d2] => { results := [.lit (.bool true)], args := [d1, d2] }
  | _ => none }
def fnAppendSortKeyOrdersAsCanonicalRow : OpenClaim := { program := "qxb6603816a", sum := "ab81f414024a5b3965de462c1262b86708313ac05eff7e5130fe6c36773d35b4", func := "example.com/zonewright/zonewright/zzlaws_pkg_dns_b1.FnAppendSortKeyOrdersAsCanonical", spec := "fnAppendSortKeyOrdersAsCanonical", apart := false }
def FnAppendSortKeyOrdersAsCanonicalSaid : Prop := fnAppendSortKeyOrdersAsCanonicalRow.holds Try.pinned (OpenSpec.ofChange fnAppendSortKeyOrdersAsCanonicalSpec)

/-- ITS FALSE NEIGHBOUR: 'it returns false'. Refute it at one input. -/
def fnAppendSortKeyOrdersAsCanonicalWrong : ChangeSpec := { name := "fnAppendSortKeyOrdersAsCanonical", fn := fun _ => fun
  | [d1, d2] => { results := [.lit (.bool false)], args := [d1, d2] }
  | _ => none }
def FnAppendSortKeyOrdersAsCanonicalWrongFalsely : Prop := fnAppendSortKeyOrdersAsCanonicalRow.holds Try.pinned (OpenSpec.ofChange fnAppendSortKeyOrdersAsCanonicalWrong)

end Rows
end Go.Proofs.Qxb6603816a
