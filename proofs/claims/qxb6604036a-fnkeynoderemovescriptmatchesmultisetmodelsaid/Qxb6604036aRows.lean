/-
  NARROWER THAN 'FOR EVERY INPUT', by the rows' own cells (each row's printed sentence says how): FnKeyNodeInsertMatchesSortedModel: loops · FnKeyNodeRemoveMatchesSortedModel: loops.
  DERIVED. THE GIVEN ROWS OF THIS SEAT. 4 by the template 'for every input the law returns true; each argument reads behind the call as it read before'; 0 by the template 'total and deterministic' (their statements: Qxb6604036aTotals.lean).
  GIVEN WITH THE SEED: the statements are not yours to turn. If you find one false, say at which input.
  Laid BY PROGRAM, IN A SANDBOX (cutbox-rows.mjs): the forced cells as the released guide's own fill.sh prints them over the translation 929976a5738abb6d… (all of the seat's roots in one cut). By AI agents, Wed Nov 11 2026. No macro, syntax, notation, axiom, sorry.
-/
import Derived.Test.Qxb6604036aChecked
import GoSem.Claim
import GoSem.ClaimJoined
import GoSem.ClaimMapViews
import Derived.JoinedTies
import Derived.KernelRfl
namespace Go.Proofs.Qxb6604036a
/- THE CELL 'sum', in the pinned program and in every row, IS THE sha256 OF THE DUMP (.gsa) THAT Qxb6604036aProg.lean LOADS. Nothing in Lean hashes anything: it is a label: what it is worth is what the hold of that sum in a sandbox is worth. -/
noncomputable def Try.pinned : Pinned := { name := "qxb6604036a", sum := "929976a5738abb6d92336340d1726661b1f6b577674e51aba3d93b11013fcd22", checked := Try.checked }
namespace Rows
def none {H : Type} : Left H := { results := [], args := [] }

/-- 'zzlaws_store_b1.FnKeyNodeInsertMatchesSortedModel': WHATEVER THE INPUT: true; the input reads as it did. -/
def fnKeyNodeInsertMatchesSortedModelSpec : ChangeSpec := { name := "fnKeyNodeInsertMatchesSortedModel", fn := fun _ => fun
  | [d1, d2] => { results := [.lit (.bool true)], args := [d1, d2] }
  | _ => none }
def fnKeyNodeInsertMatchesSortedModelRow : OpenClaim := { program := "qxb6604036a", sum := "929976a5738abb6d92336340d1726661b1f6b577674e51aba3d93b11013fcd22", func := "example.com/chronoshard/chronoshard/zzlaws_store_b1.FnKeyNodeInsertMatchesSortedModel", spec := "fnKeyNodeInsertMatchesSortedModel", inPlace := ["slices.overlaps[string]", "slices.overlaps[*example.com/chronoshard/chronoshard/store.keyNode]"], recurses := true, loops := true, apart := false }
def FnKeyNodeInsertMatchesSortedModelSaid : Prop := fnKeyNodeInsertMatchesSortedModelRow.holds Try.pinned (OpenSpec.ofChange fnKeyNodeInsertMatchesSortedModelSpec)

/-- ITS FALSE NEIGHBOUR: 'it returns false'. Refute it at one input. -/
def fnKeyNodeInsertMatchesSortedModelWrong : ChangeSpec := { name := "fnKeyNodeInsertMatchesSortedModel", fn := fun _ => fun
  | [d1, d2] => { results := [.lit (.bool false)], args := [d1, d2] }
  | _ => none }
def FnKeyNodeInsertMatchesSortedModelWrongFalsely : Prop := fnKeyNodeInsertMatchesSortedModelRow.holds Try.pinned (OpenSpec.ofChange fnKeyNodeInsertMatchesSortedModelWrong)

/-- 'zzlaws_store_b1.FnKeyNodeInsertScriptBuildsSortedTree': WHATEVER THE INPUT: true; the input reads as it did. -/
def fnKeyNodeInsertScriptBuildsSortedTreeSpec : ChangeSpec := { name := "fnKeyNodeInsertScriptBuildsSortedTree", fn := fun _ => fun
  | [d] => { results := [.lit (.bool true)], args := [d] }
  | _ => none }
def fnKeyNodeInsertScriptBuildsSortedTreeRow : OpenClaim := { program := "qxb6604036a", sum := "929976a5738abb6d92336340d1726661b1f6b577674e51aba3d93b11013fcd22", func := "example.com/chronoshard/chronoshard/zzlaws_store_b1.FnKeyNodeInsertScriptBuildsSortedTree", spec := "fnKeyNodeInsertScriptBuildsSortedTree", inPlace := ["slices.overlaps[string]", "slices.overlaps[*example.com/chronoshard/chronoshard/store.keyNode]"], recurses := true, apart := false }
def FnKeyNodeInsertScriptBuildsSortedTreeSaid : Prop := fnKeyNodeInsertScriptBuildsSortedTreeRow.holds Try.pinned (OpenSpec.ofChange fnKeyNodeInsertScriptBuildsSortedTreeSpec)

/-- ITS FALSE NEIGHBOUR: 'it returns false'. Refute it at one input. -/
def fnKeyNodeInsertScriptBuildsSortedTreeWrong : ChangeSpec := { name := "fnKeyNodeInsertScriptBuildsSortedTree", fn := fun _ => fun
  | [d] => { results := [.lit (.bool false)], args := [d] }
  | _ => none }
def FnKeyNodeInsertScriptBuildsSortedTreeWrongFalsely : Prop := fnKeyNodeInsertScriptBuildsSortedTreeRow.holds Try.pinned (OpenSpec.ofChange fnKeyNodeInsertScriptBuildsSortedTreeWrong)

/-- 'zzlaws_store_b1.FnKeyNodeRemoveMatchesSortedModel': WHATEVER THE INPUT: true; the input reads as it did. -/
def fnKeyNodeRemoveMatchesSortedModelSpec : ChangeSpec := { name := "fnKeyNodeRemoveMatchesSortedModel", fn := fun _ => fun
  | [d1, d2] => { results := [.lit (.bool true)], args := [d1, d2] }
  | _ => none }
def fnKeyNodeRemoveMatchesSortedModelRow : OpenClaim := { program := "qxb6604036a", sum := "929976a5738abb6d92336340d1726661b1f6b577674e51aba3d93b11013fcd22", func := "example.com/chronoshard/chronoshard/zzlaws_store_b1.FnKeyNodeRemoveMatchesSortedModel", spec := "fnKeyNodeRemoveMatchesSortedModel", inPlace := ["slices.overlaps[string]", "slices.overlaps[*example.com/chronoshard/chronoshard/store.keyNode]"], recurses := true, loops := true, apart := false }
def FnKeyNodeRemoveMatchesSortedModelSaid : Prop := fnKeyNodeRemoveMatchesSortedModelRow.holds Try.pinned (OpenSpec.ofChange fnKeyNodeRemoveMatchesSortedModelSpec)

/-- ITS FALSE NEIGHBOUR: 'it returns false'. Refute it at one input. -/
def fnKeyNodeRemoveMatchesSortedModelWrong : ChangeSpec := { name := "fnKeyNodeRemoveMatchesSortedModel", fn := fun _ => fun
  | [d1, d2] => { results := [.lit (.bool false)], args := [d1, d2] }
  | _ => none }
def FnKeyNodeRemoveMatchesSortedModelWrongFalsely : Prop := fnKeyNodeRemoveMatchesSortedModelRow.holds Try.pinned (OpenSpec.ofChange fnKeyNodeRemoveMatchesSortedModelWrong)

/-- 'zzlaws_store_b1.FnKeyNodeRemoveScriptMatchesMultisetModel': WHATEVER THE INPUT: true; the input reads as it did. -/
def fnKeyNodeRemoveScriptMatchesMultisetModelSpec : ChangeSpec := { name := "fnKeyNodeRemoveScriptMatchesMultisetModel", fn := fun _ => fun
  | [d1, d2] => { results := [.lit (.bool true)], args := [d1, d2] }
  | _ => none }
def fnKeyNodeRemoveScriptMatchesMultisetModelRow : OpenClaim := { program := "qxb6604036a", sum := "929976a5738abb6d92336340d1726661b1f6b577674e51aba3d93b11013fcd22", func := "example.com/chronoshard/chronoshard/zzlaws_store_b1.FnKeyNodeRemoveScriptMatchesMultisetModel", spec := "fnKeyNodeRemoveScriptMatchesMultisetModel", inPlace := ["slices.overlaps[string]", "slices.overlaps[*example.com/chronoshard/chronoshard/store.keyNode]"], recurses := true, apart := false }
def FnKeyNodeRemoveScriptMatchesMultisetModelSaid : Prop := fnKeyNodeRemoveScriptMatchesMultisetModelRow.holds Try.pinned (OpenSpec.ofChange fnKeyNodeRemoveScriptMatchesMultisetModelSpec)

/-- ITS FALSE NEIGHBOUR: 'it returns false'. Refute it at one input. -/
def fnKeyNodeRemoveScriptMatchesMultisetModelWrong : ChangeSpec := { name := "fnKeyNodeRemoveScriptMatchesMultisetModel", fn := fun _ => fun
  | [d1, d2] => { results := [.lit (.bool false)], args := [d1, d2] }
  | _ => none }
def FnKeyNodeRemoveScriptMatchesMultisetModelWrongFalsely : Prop := fnKeyNodeRemoveScriptMatchesMultisetModelRow.holds Try.pinned (OpenSpec.ofChange fnKeyNodeRemoveScriptMatchesMultisetModelWrong)

end Rows
end Go.Proofs.Qxb6604036a
