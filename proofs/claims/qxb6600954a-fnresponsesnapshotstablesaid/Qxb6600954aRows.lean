/-
  No cell of these rows narrows 'for every input' (looked for: loops, veiled, ifaces, maps, wideKeys, modest, calm, conditions, laid).
  DERIVED. THE GIVEN ROWS OF THIS SEAT. 5 by the template 'for every input the law returns true; each argument reads behind the call as it read before'; 0 by the template 'total and deterministic' (their statements: Qxb6600954aTotals.lean).
  GIVEN WITH THE SEED: the statements are not yours to turn. If you find one false, say at which input.
  Laid BY PROGRAM, IN A SANDBOX (cutbox-rows.mjs): the forced cells as the released guide's own fill.sh prints them over the translation fe705e825ba0f5ed… (all of the seat's roots in one cut). By AI agents, Wed Nov 11 2026. No macro, syntax, notation, axiom, sorry.
-/
import Derived.Test.Qxb6600954aChecked
import GoSem.Claim
import GoSem.ClaimJoined
import GoSem.ClaimMapViews
import Derived.JoinedTies
import Derived.KernelRfl
namespace Go.Proofs.Qxb6600954a
/- THE CELL 'sum', in the pinned program and in every row, IS THE sha256 OF THE DUMP (.gsa) THAT Qxb6600954aProg.lean LOADS. Nothing in Lean hashes anything: it is a label: what it is worth is what the hold of that sum in a sandbox is worth. -/
noncomputable def Try.pinned : Pinned := { name := "qxb6600954a", sum := "fe705e825ba0f5ed87063f33ab238a4dbe32af36bec4794be52257ab2ea85dea", checked := Try.checked }
namespace Rows
def none {H : Type} : Left H := { results := [], args := [] }

/-- 'zzlaws_root_b1.FnAssemblyMatchesFragmentRule': WHATEVER THE INPUT: true; the input reads as it did. -/
def fnAssemblyMatchesFragmentRuleSpec : ChangeSpec := { name := "fnAssemblyMatchesFragmentRule", fn := fun _ => fun
  | [d1, d2, d3] => { results := [.lit (.bool true)], args := [d1, d2, d3] }
  | _ => none }
def fnAssemblyMatchesFragmentRuleRow : OpenClaim := { program := "qxb6600954a", sum := "fe705e825ba0f5ed87063f33ab238a4dbe32af36bec4794be52257ab2ea85dea", func := "example.com/keel/keel/zzlaws_root_b1.FnAssemblyMatchesFragmentRule", spec := "fnAssemblyMatchesFragmentRule", inPlace := ["slices.overlaps[*example.com/keel/keel.partialCall]"], unfollowed := true, recurses := true, apart := false }
def FnAssemblyMatchesFragmentRuleSaid : Prop := fnAssemblyMatchesFragmentRuleRow.holds Try.pinned (OpenSpec.ofChange fnAssemblyMatchesFragmentRuleSpec)

/-- ITS FALSE NEIGHBOUR: 'it returns false'. Refute it at one input. -/
def fnAssemblyMatchesFragmentRuleWrong : ChangeSpec := { name := "fnAssemblyMatchesFragmentRule", fn := fun _ => fun
  | [d1, d2, d3] => { results := [.lit (.bool false)], args := [d1, d2, d3] }
  | _ => none }
def FnAssemblyMatchesFragmentRuleWrongFalsely : Prop := fnAssemblyMatchesFragmentRuleRow.holds Try.pinned (OpenSpec.ofChange fnAssemblyMatchesFragmentRuleWrong)

/-- 'zzlaws_root_b1.FnCallAtContinuesOrBeginsInPlace': WHATEVER THE INPUT: true; the input reads as it did. -/
def fnCallAtContinuesOrBeginsInPlaceSpec : ChangeSpec := { name := "fnCallAtContinuesOrBeginsInPlace", fn := fun _ => fun
  | [d1, d2] => { results := [.lit (.bool true)], args := [d1, d2] }
  | _ => none }
def fnCallAtContinuesOrBeginsInPlaceRow : OpenClaim := { program := "qxb6600954a", sum := "fe705e825ba0f5ed87063f33ab238a4dbe32af36bec4794be52257ab2ea85dea", func := "example.com/keel/keel/zzlaws_root_b1.FnCallAtContinuesOrBeginsInPlace", spec := "fnCallAtContinuesOrBeginsInPlace", inPlace := ["slices.overlaps[*example.com/keel/keel.partialCall]"], unfollowed := true, recurses := true, apart := false }
def FnCallAtContinuesOrBeginsInPlaceSaid : Prop := fnCallAtContinuesOrBeginsInPlaceRow.holds Try.pinned (OpenSpec.ofChange fnCallAtContinuesOrBeginsInPlaceSpec)

/-- ITS FALSE NEIGHBOUR: 'it returns false'. Refute it at one input. -/
def fnCallAtContinuesOrBeginsInPlaceWrong : ChangeSpec := { name := "fnCallAtContinuesOrBeginsInPlace", fn := fun _ => fun
  | [d1, d2] => { results := [.lit (.bool false)], args := [d1, d2] }
  | _ => none }
def FnCallAtContinuesOrBeginsInPlaceWrongFalsely : Prop := fnCallAtContinuesOrBeginsInPlaceRow.holds Try.pinned (OpenSpec.ofChange fnCallAtContinuesOrBeginsInPlaceWrong)

/-- 'zzlaws_root_b1.FnAddToolCallKeepsInvariants': WHATEVER THE INPUT: true; the input reads as it did. -/
def fnAddToolCallKeepsInvariantsSpec : ChangeSpec := { name := "fnAddToolCallKeepsInvariants", fn := fun _ => fun
  | [d] => { results := [.lit (.bool true)], args := [d] }
  | _ => none }
def fnAddToolCallKeepsInvariantsRow : OpenClaim := { program := "qxb6600954a", sum := "fe705e825ba0f5ed87063f33ab238a4dbe32af36bec4794be52257ab2ea85dea", func := "example.com/keel/keel/zzlaws_root_b1.FnAddToolCallKeepsInvariants", spec := "fnAddToolCallKeepsInvariants", inPlace := ["slices.overlaps[*example.com/keel/keel.partialCall]"], unfollowed := true, recurses := true, apart := false }
def FnAddToolCallKeepsInvariantsSaid : Prop := fnAddToolCallKeepsInvariantsRow.holds Try.pinned (OpenSpec.ofChange fnAddToolCallKeepsInvariantsSpec)

/-- ITS FALSE NEIGHBOUR: 'it returns false'. Refute it at one input. -/
def fnAddToolCallKeepsInvariantsWrong : ChangeSpec := { name := "fnAddToolCallKeepsInvariants", fn := fun _ => fun
  | [d] => { results := [.lit (.bool false)], args := [d] }
  | _ => none }
def FnAddToolCallKeepsInvariantsWrongFalsely : Prop := fnAddToolCallKeepsInvariantsRow.holds Try.pinned (OpenSpec.ofChange fnAddToolCallKeepsInvariantsWrong)

/-- 'zzlaws_root_b1.FnResponseFinishTable': WHATEVER THE INPUT: true; the input reads as it did. -/
def fnResponseFinishTableSpec : ChangeSpec := { name := "fnResponseFinishTable", fn := fun _ => fun
  | [d1, d2] => { results := [.lit (.bool true)], args := [d1, d2] }
  | _ => none }
def fnResponseFinishTableRow : OpenClaim := { program := "qxb6600954a", sum := "fe705e825ba0f5ed87063f33ab238a4dbe32af36bec4794be52257ab2ea85dea", func := "example.com/keel/keel/zzlaws_root_b1.FnResponseFinishTable", spec := "fnResponseFinishTable", inPlace := ["slices.overlaps[*example.com/keel/keel.partialCall]"], unfollowed := true, recurses := true, apart := false }
def FnResponseFinishTableSaid : Prop := fnResponseFinishTableRow.holds Try.pinned (OpenSpec.ofChange fnResponseFinishTableSpec)

/-- ITS FALSE NEIGHBOUR: 'it returns false'. Refute it at one input. -/
def fnResponseFinishTableWrong : ChangeSpec := { name := "fnResponseFinishTable", fn := fun _ => fun
  | [d1, d2] => { results := [.lit (.bool false)], args := [d1, d2] }
  | _ => none }
def FnResponseFinishTableWrongFalsely : Prop := fnResponseFinishTableRow.holds Try.pinned (OpenSpec.ofChange fnResponseFinishTableWrong)

/-- 'zzlaws_root_b1.FnResponseSnapshotStable': WHATEVER THE INPUT: true; the input reads as it did. -/
def fnResponseSnapshotStableSpec : ChangeSpec := { name := "fnResponseSnapshotStable", fn := fun _ => fun
  | [d1, d2] => { results := [.lit (.bool true)], args := [d1, d2] }
  | _ => none }
def fnResponseSnapshotStableRow : OpenClaim := { program := "qxb6600954a", sum := "fe705e825ba0f5ed87063f33ab238a4dbe32af36bec4794be52257ab2ea85dea", func := "example.com/keel/keel/zzlaws_root_b1.FnResponseSnapshotStable", spec := "fnResponseSnapshotStable", inPlace := ["slices.overlaps[*example.com/keel/keel.partialCall]"], unfollowed := true, recurses := true, apart := false }
def FnResponseSnapshotStableSaid : Prop := fnResponseSnapshotStableRow.holds Try.pinned (OpenSpec.ofChange fnResponseSnapshotStableSpec)

/-- ITS FALSE NEIGHBOUR: 'it returns false'. Refute it at one input. -/
def fnResponseSnapshotStableWrong : ChangeSpec := { name := "fnResponseSnapshotStable", fn := fun _ => fun
  | [d1, d2] => { results := [.lit (.bool false)], args := [d1, d2] }
  | _ => none }
def FnResponseSnapshotStableWrongFalsely : Prop := fnResponseSnapshotStableRow.holds Try.pinned (OpenSpec.ofChange fnResponseSnapshotStableWrong)

end Rows
end Go.Proofs.Qxb6600954a
