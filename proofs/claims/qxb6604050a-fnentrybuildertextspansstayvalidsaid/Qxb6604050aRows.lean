/-
  No cell of these rows narrows 'for every input' (looked for: loops, veiled, ifaces, maps, wideKeys, modest, calm, conditions, laid).
  DERIVED. THE GIVEN ROWS OF THIS SEAT. 3 by the template 'for every input the law returns true; each argument reads behind the call as it read before'; 0 by the template 'total and deterministic' (their statements: Qxb6604050aTotals.lean).
  GIVEN WITH THE SEED: the statements are not yours to turn. If you find one false, say at which input.
  Laid BY PROGRAM, IN A SANDBOX (cutbox-rows.mjs): the forced cells as the released guide's own fill.sh prints them over the translation a0b2da94919d028e… (all of the seat's roots in one cut). By AI agents, Wed Nov 11 2026. No macro, syntax, notation, axiom, sorry.
-/
import Derived.Test.Qxb6604050aChecked
import GoSem.Claim
import GoSem.ClaimJoined
import GoSem.ClaimMapViews
import Derived.JoinedTies
import Derived.KernelRfl
namespace Go.Proofs.Qxb6604050a
/- THE CELL 'sum', in the pinned program and in every row, IS THE sha256 OF THE DUMP (.gsa) THAT Qxb6604050aProg.lean LOADS. Nothing in Lean hashes anything: it is a label: what it is worth is what the hold of that sum in a sandbox is worth. -/
noncomputable def Try.pinned : Pinned := { name := "qxb6604050a", sum := "a0b2da94919d028e82c278f92e549ce8f71412f87ffd6f1c0c81b2cf7a6ca417", checked := Try.checked }
namespace Rows
def none {H : Type} : Left H := { results := [], args := [] }

/-- 'zzlaws_pkg_revocation_b1.FnShortIntegerIsCanonicalDecimal': WHATEVER THE INPUT: true; the input reads as it did. -/
def fnShortIntegerIsCanonicalDecimalSpec : ChangeSpec := { name := "fnShortIntegerIsCanonicalDecimal", fn := fun _ => fun
  | [d] => { results := [.lit (.bool true)], args := [d] }
  | _ => none }
def fnShortIntegerIsCanonicalDecimalRow : OpenClaim := { program := "qxb6604050a", sum := "a0b2da94919d028e82c278f92e549ce8f71412f87ffd6f1c0c81b2cf7a6ca417", func := "example.com/taketh/taketh/zzlaws_pkg_revocation_b1.FnShortIntegerIsCanonicalDecimal", spec := "fnShortIntegerIsCanonicalDecimal", apart := false }
def FnShortIntegerIsCanonicalDecimalSaid : Prop := fnShortIntegerIsCanonicalDecimalRow.holds Try.pinned (OpenSpec.ofChange fnShortIntegerIsCanonicalDecimalSpec)

/-- ITS FALSE NEIGHBOUR: 'it returns false'. Refute it at one input. -/
def fnShortIntegerIsCanonicalDecimalWrong : ChangeSpec := { name := "fnShortIntegerIsCanonicalDecimal", fn := fun _ => fun
  | [d] => { results := [.lit (.bool false)], args := [d] }
  | _ => none }
def FnShortIntegerIsCanonicalDecimalWrongFalsely : Prop := fnShortIntegerIsCanonicalDecimalRow.holds Try.pinned (OpenSpec.ofChange fnShortIntegerIsCanonicalDecimalWrong)

/-- 'zzlaws_pkg_revocation_b1.FnEntryBuilderTextReadsBack': WHATEVER THE INPUT: true; the input reads as it did. -/
def fnEntryBuilderTextReadsBackSpec : ChangeSpec := { name := "fnEntryBuilderTextReadsBack", fn := fun _ => fun
  | [d1, d2, d3, d4, d5] => { results := [.lit (.bool true)], args := [d1, d2, d3, d4, d5] }
  | _ => none }
def fnEntryBuilderTextReadsBackRow : OpenClaim := { program := "qxb6604050a", sum := "a0b2da94919d028e82c278f92e549ce8f71412f87ffd6f1c0c81b2cf7a6ca417", func := "example.com/taketh/taketh/zzlaws_pkg_revocation_b1.FnEntryBuilderTextReadsBack", spec := "fnEntryBuilderTextReadsBack", apart := false }
def FnEntryBuilderTextReadsBackSaid : Prop := fnEntryBuilderTextReadsBackRow.holds Try.pinned (OpenSpec.ofChange fnEntryBuilderTextReadsBackSpec)

/-- ITS FALSE NEIGHBOUR: 'it returns false'. Refute it at one input. -/
def fnEntryBuilderTextReadsBackWrong : ChangeSpec := { name := "fnEntryBuilderTextReadsBack", fn := fun _ => fun
  | [d1, d2, d3, d4, d5] => { results := [.lit (.bool false)], args := [d1, d2, d3, d4, d5] }
  | _ => none }
def FnEntryBuilderTextReadsBackWrongFalsely : Prop := fnEntryBuilderTextReadsBackRow.holds Try.pinned (OpenSpec.ofChange fnEntryBuilderTextReadsBackWrong)

/-- 'zzlaws_pkg_revocation_b1.FnEntryBuilderTextSpansStayValid': WHATEVER THE INPUT: true; the input reads as it did. -/
def fnEntryBuilderTextSpansStayValidSpec : ChangeSpec := { name := "fnEntryBuilderTextSpansStayValid", fn := fun _ => fun
  | [d1, d2, d3] => { results := [.lit (.bool true)], args := [d1, d2, d3] }
  | _ => none }
def fnEntryBuilderTextSpansStayValidRow : OpenClaim := { program := "qxb6604050a", sum := "a0b2da94919d028e82c278f92e549ce8f71412f87ffd6f1c0c81b2cf7a6ca417", func := "example.com/taketh/taketh/zzlaws_pkg_revocation_b1.FnEntryBuilderTextSpansStayValid", spec := "fnEntryBuilderTextSpansStayValid", apart := false }
def FnEntryBuilderTextSpansStayValidSaid : Prop := fnEntryBuilderTextSpansStayValidRow.holds Try.pinned (OpenSpec.ofChange fnEntryBuilderTextSpansStayValidSpec)

/-- ITS FALSE NEIGHBOUR: 'it returns false'. Refute it at one input. -/
def fnEntryBuilderTextSpansStayValidWrong : ChangeSpec := { name := "fnEntryBuilderTextSpansStayValid", fn := fun _ => fun
  | [d1, d2, d3] => { results := [.lit (.bool false)], args := [d1, d2, d3] }
  | _ => none }
def FnEntryBuilderTextSpansStayValidWrongFalsely : Prop := fnEntryBuilderTextSpansStayValidRow.holds Try.pinned (OpenSpec.ofChange fnEntryBuilderTextSpansStayValidWrong)

end Rows
end Go.Proofs.Qxb6604050a
