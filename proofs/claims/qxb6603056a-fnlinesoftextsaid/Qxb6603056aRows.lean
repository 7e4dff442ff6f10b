/-
  No cell of these rows narrows 'for every input' (looked for: loops, veiled, ifaces, maps, wideKeys, modest, calm, conditions, laid).
  DERIVED. THE GIVEN ROWS OF THIS SEAT. 5 by the template 'for every input the law returns true; each argument reads behind the call as it read before'; 0 by the template 'total and deterministic' (their statements: Qxb6603056aTotals.lean).
  GIVEN WITH THE SEED: the statements are not yours to turn. If you find one false, say at which input.
  Laid BY PROGRAM, IN A SANDBOX (cutbox-rows.mjs): the forced cells as the released guide's own fill.sh prints them over the translation efdcbc0919076cc1… (all of the seat's roots in one cut). By AI agents, Wed Nov 11 2026. No macro, syntax, notation, axiom, sorry.
-/
import Derived.Test.Qxb6603056aChecked
import GoSem.Claim
import GoSem.ClaimJoined
import GoSem.ClaimMapViews
import Derived.JoinedTies
import Derived.KernelRfl
namespace Go.Proofs.Qxb6603056a
/- THE CELL 'sum', in the pinned program and in every row, IS THE sha256 OF THE DUMP (.gsa) THAT Qxb6603056aProg.lean LOADS. Nothing in Lean hashes anything: it is a label: what it is worth is what the hold of that sum in a sandbox is worth. -/
noncomputable def Try.pinned : Pinned := { name := "qxb6603056a", sum := "efdcbc0919076cc1be8ada9c3497a6034306b8ae1efeb55945fdb81c1636150c", checked := Try.checked }
namespace Rows
def none {H : Type} : Left H := { results := [], args := [] }

/-- 'zzlaws_yamlnode_b1.FnLineNodesWordModel': WHATEVER THE INPUT: true; the input reads as it did. -/
def fnLineNodesWordModelSpec : ChangeSpec := { name := "fnLineNodesWordModel", fn := fun _ => fun
  | [d] => { results := [.lit (.bool true)], args := [d] }
  | _ => none }
def fnLineNodesWordModelRow : OpenClaim := { program := "qxb6603056a", sum := "efdcbc0919076cc1be8ada9c3497a6034306b8ae1efeb55945fdb81c1636150c", func := "example.com/proof-of-config/proof-of-config/zzlaws_yamlnode_b1.FnLineNodesWordModel", spec := "fnLineNodesWordModel", inPlace := ["internal/bytealg.IndexByteString"], apart := false }
def FnLineNodesWordModelSaid : Prop := fnLineNodesWordModelRow.holds Try.pinned (OpenSpec.ofChange fnLineNodesWordModelSpec)

/-- ITS FALSE NEIGHBOUR: 'it returns false'. Refute it at one input. -/
def fnLineNodesWordModelWrong : ChangeSpec := { name := "fnLineNodesWordModel", fn := fun _ => fun
  | [d] => { results := [.lit (.bool false)], args := [d] }
  | _ => none }
def FnLineNodesWordModelWrongFalsely : Prop := fnLineNodesWordModelRow.holds Try.pinned (OpenSpec.ofChange fnLineNodesWordModelWrong)

/-- 'zzlaws_yamlnode_b1.FnLineNodesBlankInvariant': WHATEVER THE INPUT: true; the input reads as it did. -/
def fnLineNodesBlankInvariantSpec : ChangeSpec := { name := "fnLineNodesBlankInvariant", fn := fun _ => fun
  | [d] => { results := [.lit (.bool true)], args := [d] }
  | _ => none }
def fnLineNodesBlankInvariantRow : OpenClaim := { program := "qxb6603056a", sum := "efdcbc0919076cc1be8ada9c3497a6034306b8ae1efeb55945fdb81c1636150c", func := "example.com/proof-of-config/proof-of-config/zzlaws_yamlnode_b1.FnLineNodesBlankInvariant", spec := "fnLineNodesBlankInvariant", inPlace := ["internal/bytealg.IndexByteString"], apart := false }
def FnLineNodesBlankInvariantSaid : Prop := fnLineNodesBlankInvariantRow.holds Try.pinned (OpenSpec.ofChange fnLineNodesBlankInvariantSpec)

/-- ITS FALSE NEIGHBOUR: 'it returns false'. Refute it at one input. -/
def fnLineNodesBlankInvariantWrong : ChangeSpec := { name := "fnLineNodesBlankInvariant", fn := fun _ => fun
  | [d] => { results := [.lit (.bool false)], args := [d] }
  | _ => none }
def FnLineNodesBlankInvariantWrongFalsely : Prop := fnLineNodesBlankInvariantRow.holds Try.pinned (OpenSpec.ofChange fnLineNodesBlankInvariantWrong)

/-- 'zzlaws_yamlnode_b1.FnLineNodesBound': WHATEVER THE INPUT: true; the input reads as it did. -/
def fnLineNodesBoundSpec : ChangeSpec := { name := "fnLineNodesBound", fn := fun _ => fun
  | [d] => { results := [.lit (.bool true)], args := [d] }
  | _ => none }
def fnLineNodesBoundRow : OpenClaim := { program := "qxb6603056a", sum := "efdcbc0919076cc1be8ada9c3497a6034306b8ae1efeb55945fdb81c1636150c", func := "example.com/proof-of-config/proof-of-config/zzlaws_yamlnode_b1.FnLineNodesBound", spec := "fnLineNodesBound", inPlace := ["internal/bytealg.IndexByteString"], apart := false }
def FnLineNodesBoundSaid : Prop := fnLineNodesBoundRow.holds Try.pinned (OpenSpec.ofChange fnLineNodesBoundSpec)

/-- ITS FALSE NEIGHBOUR: 'it returns false'. Refute it at one input. -/
def fnLineNodesBoundWrong : ChangeSpec := { name := "fnLineNodesBound", fn := fun _ => fun
  | [d] => { results := [.lit (.bool false)], args := [d] }
  | _ => none }
def FnLineNodesBoundWrongFalsely : Prop := fnLineNodesBoundRow.holds Try.pinned (OpenSpec.ofChange fnLineNodesBoundWrong)

/-- 'zzlaws_yamlnode_b1.FnOpensLocal': WHATEVER THE INPUT: true; the input reads as it did. -/
def fnOpensLocalSpec : ChangeSpec := { name := "fnOpensLocal", fn := fun _ => fun
  | [d1, d2] => { results := [.lit (.bool true)], args := [d1, d2] }
  | _ => none }
def fnOpensLocalRow : OpenClaim := { program := "qxb6603056a", sum := "efdcbc0919076cc1be8ada9c3497a6034306b8ae1efeb55945fdb81c1636150c", func := "example.com/proof-of-config/proof-of-config/zzlaws_yamlnode_b1.FnOpensLocal", spec := "fnOpensLocal", apart := false }
def FnOpensLocalSaid : Prop := fnOpensLocalRow.holds Try.pinned (OpenSpec.ofChange fnOpensLocalSpec)

/-- ITS FALSE NEIGHBOUR: 'it returns false'. Refute it at one input. -/
def fnOpensLocalWrong : ChangeSpec := { name := "fnOpensLocal", fn := fun _ => fun
  | [d1, d2] => { results := [.lit (.bool false)], args := [d1, d2] }
  | _ => none }
def FnOpensLocalWrongFalsely : Prop := fnOpensLocalRow.holds Try.pinned (OpenSpec.ofChange fnOpensLocalWrong)

/-- 'zzlaws_yamlnode_b1.FnLinesOfText': WHATEVER THE INPUT: true; the input reads as it did. -/
def fnLinesOfTextSpec : ChangeSpec := { name := "fnLinesOfText", fn := fun _ => fun
  | [d] => { results := [.lit (.bool true)], args := [d] }
  | _ => none }
def fnLinesOfTextRow : OpenClaim := { program := "qxb6603056a", sum := "efdcbc0919076cc1be8ada9c3497a6034306b8ae1efeb55945fdb81c1636150c", func := "example.com/proof-of-config/proof-of-config/zzlaws_yamlnode_b1.FnLinesOfText", spec := "fnLinesOfText", apart := false }
def FnLinesOfTextSaid : Prop := fnLinesOfTextRow.holds Try.pinned (OpenSpec.ofChange fnLinesOfTextSpec)

/-- ITS FALSE NEIGHBOUR: 'it returns false'. Refute it at one input. -/
def fnLinesOfTextWrong : ChangeSpec := { name := "fnLinesOfText", fn := fun _ => fun
  | [d] => { results := [.lit (.bool false)], args := [d] }
  | _ => none }
def FnLinesOfTextWrongFalsely : Prop := fnLinesOfTextRow.holds Try.pinned (OpenSpec.ofChange fnLinesOfTextWrong)

end Rows
end Go.Proofs.Qxb6603056a
