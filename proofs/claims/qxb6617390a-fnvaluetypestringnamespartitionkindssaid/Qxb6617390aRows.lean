/-
  No cell of these rows narrows 'for every input' (looked for: loops, veiled, ifaces, maps, wideKeys, modest, calm, conditions, laid).
  DERIVED. THE GIVEN ROWS OF THIS SEAT. 3 by the template 'for every input the law returns true; each argument reads behind the call as it read before'; 0 by the template 'total and deterministic' (their statements: Qxb6617390aTotals.lean).
  GIVEN WITH THE SEED: the statements are not yours to turn. If you find one false, say at which input.
  Laid BY PROGRAM, IN A SANDBOX (cutbox-rows.mjs): the forced cells as the released guide's own fill.sh prints them over the translation 28b0ee9a327ebf7d… (all of the seat's roots in one cut). By AI agents, Wed Nov 11 2026. No macro, syntax, notation, axiom, sorry.
-/
import Derived.Test.Qxb6617390aChecked
import GoSem.Claim
import GoSem.ClaimJoined
import GoSem.ClaimMapViews
import Derived.JoinedTies
import Derived.KernelRfl
namespace Go.Proofs.Qxb6617390a
/- THE CELL 'sum', in the pinned program and in every row, IS THE sha256 OF THE DUMP (.gsa) THAT Qxb6617390aProg.lean LOADS. Nothing in Lean hashes anything: it is a label: what it is worth is what the hold of that sum in a sandbox is worth. -/
noncomputable def Try.pinned : Pinned := { name := "qxb6617390a", sum := "28b0ee9a327ebf7d8f5afe3eef0e4155decfa78d41abc0bc8425f2ef05930083", checked := Try.checked }
namespace Rows
def none {H : Type} : Left H := { results := [], args := [] }

/-- 'zzlaws_internal_condition_b1.FnSkipSpaceMatchesCommentAutomaton': WHATEVER THE INPUT: true; the input reads as it did. -/
def fnSkipSpaceMatchesCommentAutomatonSpec : ChangeSpec := { name := "fnSkipSpaceMatchesCommentAutomaton", fn := fun _ => fun
  | [d1, d2] => { results := [.lit (.bool true)], args := [d1, d2] }
  | _ => none }
def fnSkipSpaceMatchesCommentAutomatonRow : OpenClaim := { program := "qxb6617390a", sum := "28b0ee9a327ebf7d8f5afe3eef0e4155decfa78d41abc0bc8425f2ef05930083", func := "example.com/levelset/levelset/zzlaws_internal_condition_b1.FnSkipSpaceMatchesCommentAutomaton", spec := "fnSkipSpaceMatchesCommentAutomaton", inPlace := ["internal/bytealg.IndexByteString", "internal/bytealg.IndexString"], named := ["internal/bytealg.MaxLen"], apart := false }
def FnSkipSpaceMatchesCommentAutomatonSaid : Prop := fnSkipSpaceMatchesCommentAutomatonRow.holds Try.pinned (OpenSpec.ofChange fnSkipSpaceMatchesCommentAutomatonSpec)

/-- ITS FALSE NEIGHBOUR: 'it returns false'. Refute it at one input. -/
def fnSkipSpaceMatchesCommentAutomatonWrong : ChangeSpec := { name := "fnSkipSpaceMatchesCommentAutomaton", fn := fun _ => fun
  | [d1, d2] => { results := [.lit (.bool false)], args := [d1, d2] }
  | _ => none }
def FnSkipSpaceMatchesCommentAutomatonWrongFalsely : Prop := fnSkipSpaceMatchesCommentAutomatonRow.holds Try.pinned (OpenSpec.ofChange fnSkipSpaceMatchesCommentAutomatonWrong)

/-- 'zzlaws_internal_condition_b1.FnSkipSpaceLeadingBlanksShift': WHATEVER THE INPUT: true; the input reads as it did. -/
def fnSkipSpaceLeadingBlanksShiftSpec : ChangeSpec := { name := "fnSkipSpaceLeadingBlanksShift", fn := fun _ => fun
  | [d1, d2, d3] => { results := [.lit (.bool true)], args := [d1, d2, d3] }
  | _ => none }
def fnSkipSpaceLeadingBlanksShiftRow : OpenClaim := { program := "qxb6617390a", sum := "28b0ee9a327ebf7d8f5afe3eef0e4155decfa78d41abc0bc8425f2ef05930083", func := "example.com/levelset/levelset/zzlaws_internal_condition_b1.FnSkipSpaceLeadingBlanksShift", spec := "fnSkipSpaceLeadingBlanksShift", inPlace := ["internal/bytealg.IndexByteString", "internal/bytealg.IndexString"], named := ["internal/bytealg.MaxLen"], apart := false }
def FnSkipSpaceLeadingBlanksShiftSaid : Prop := fnSkipSpaceLeadingBlanksShiftRow.holds Try.pinned (OpenSpec.ofChange fnSkipSpaceLeadingBlanksShiftSpec)

/-- ITS FALSE NEIGHBOUR: 'it returns false'. Refute it at one input. -/
def fnSkipSpaceLeadingBlanksShiftWrong : ChangeSpec := { name := "fnSkipSpaceLeadingBlanksShift", fn := fun _ => fun
  | [d1, d2, d3] => { results := [.lit (.bool false)], args := [d1, d2, d3] }
  | _ => none }
def FnSkipSpaceLeadingBlanksShiftWrongFalsely : Prop := fnSkipSpaceLeadingBlanksShiftRow.holds Try.pinned (OpenSpec.ofChange fnSkipSpaceLeadingBlanksShiftWrong)

/-- 'zzlaws_internal_condition_b1.FnValueTypeStringNamesPartitionKinds': WHATEVER THE INPUT: true; the input reads as it did. -/
def fnValueTypeStringNamesPartitionKindsSpec : ChangeSpec := { name := "fnValueTypeStringNamesPartitionKinds", fn := fun _ => fun
  | [d1, d2] => { results := [.lit (.bool true)], args := [d1, d2] }
  | _ => none }
def fnValueTypeStringNamesPartitionKindsRow : OpenClaim := { program := "qxb6617390a", sum := "28b0ee9a327ebf7d8f5afe3eef0e4155decfa78d41abc0bc8425f2ef05930083", func := "example.com/levelset/levelset/zzlaws_internal_condition_b1.FnValueTypeStringNamesPartitionKinds", spec := "fnValueTypeStringNamesPartitionKinds", apart := false }
def FnValueTypeStringNamesPartitionKindsSaid : Prop := fnValueTypeStringNamesPartitionKindsRow.holds Try.pinned (OpenSpec.ofChange fnValueTypeStringNamesPartitionKindsSpec)

/-- ITS FALSE NEIGHBOUR: 'it returns false'. Refute it at one input. -/
def fnValueTypeStringNamesPartitionKindsWrong : ChangeSpec := { name := "fnValueTypeStringNamesPartitionKinds", fn := fun _ => fun
  | [d1, d2] => { results := [.lit (.bool false)], args := [d1, d2] }
  | _ => none }
def FnValueTypeStringNamesPartitionKindsWrongFalsely : Prop := fnValueTypeStringNamesPartitionKindsRow.holds Try.pinned (OpenSpec.ofChange fnValueTypeStringNamesPartitionKindsWrong)

end Rows
end Go.Proofs.Qxb6617390a
