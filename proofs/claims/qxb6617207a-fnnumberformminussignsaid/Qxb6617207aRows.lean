/-
  No cell of these rows narrows 'for every input' (looked for: loops, veiled, ifaces, maps, wideKeys, modest, calm, conditions, laid).
  DERIVED. THE GIVEN ROWS OF THIS SEAT. 4 by the template 'for every input the law returns true; each argument reads behind the call as it read before'; 0 by the template 'total and deterministic' (their statements: Qxb6617207aTotals.lean).
  GIVEN WITH THE SEED: the statements are not yours to turn. If you find one false, say at which input.
  Laid BY PROGRAM, IN A SANDBOX (cutbox-rows.mjs): the forced cells as the released guide's own fill.sh prints them over the translation e0a8ad98c2ba17a5… (all of the seat's roots in one cut). By AI agents, Wed Nov 11 2026. No macro, syntax, notation, axiom, sorry.
-/
import Derived.Test.Qxb6617207aChecked
import GoSem.Claim
import GoSem.ClaimJoined
import GoSem.ClaimMapViews
import Derived.JoinedTies
import Derived.KernelRfl
namespace Go.Proofs.Qxb6617207a
/- THE CELL 'sum', in the pinned program and in every row, IS THE sha256 OF THE DUMP (.gsa) THAT Qxb6617207aProg.lean LOADS. Nothing in Lean hashes anything: it is a label: what it is worth is what the hold of that sum in a sandbox is worth. -/
noncomputable def Try.pinned : Pinned := { name := "qxb6617207a", sum := "e0a8ad98c2ba17a50e5d347328e6526dd80f7b34f408704f59b256f385dfd4c8", checked := Try.checked }
namespace Rows
def none {H : Type} : Left H := { results := [], args := [] }

/-- 'zzlaws_pkg_scalar_b1.FnNumberFormMatchesGrammar': WHATEVER THE INPUT: true; the input reads as it did. -/
def fnNumberFormMatchesGrammarSpec : ChangeSpec := { name := "fnNumberFormMatchesGrammar", fn := fun _ => fun
  | [d] => { results := [.lit (.bool true)], args := [d] }
  | _ => none }
def fnNumberFormMatchesGrammarRow : OpenClaim := { program := "qxb6617207a", sum := "e0a8ad98c2ba17a50e5d347328e6526dd80f7b34f408704f59b256f385dfd4c8", func := "example.com/tributary/tributary/zzlaws_pkg_scalar_b1.FnNumberFormMatchesGrammar", spec := "fnNumberFormMatchesGrammar", apart := false }
def FnNumberFormMatchesGrammarSaid : Prop := fnNumberFormMatchesGrammarRow.holds Try.pinned (OpenSpec.ofChange fnNumberFormMatchesGrammarSpec)

/-- ITS FALSE NEIGHBOUR: 'it returns false'. Refute it at one input. -/
def fnNumberFormMatchesGrammarWrong : ChangeSpec := { name := "fnNumberFormMatchesGrammar", fn := fun _ => fun
  | [d] => { results := [.lit (.bool false)], args := [d] }
  | _ => none }
def FnNumberFormMatchesGrammarWrongFalsely : Prop := fnNumberFormMatchesGrammarRow.holds Try.pinned (OpenSpec.ofChange fnNumberFormMatchesGrammarWrong)

/-- 'zzlaws_pkg_scalar_b1.FnNumberFormMinusSign': WHATEVER THE INPUT: true; the input reads as it did. -/
def fnNumberFormMinusSignSpec : ChangeSpec := { name := "fnNumberFormMinusSign", fn := fun _ => fun
  | [d] => { results := [.lit (.bool true)], args := [d] }
  | _ => none }
def fnNumberFormMinusSignRow : OpenClaim := { program := "qxb6617207a", sum := "e0a8ad98c2ba17a50e5d347328e6526dd80f7b34f408704f59b256f385dfd4c8", func := "example.com/tributary/tributary/zzlaws_pkg_scalar_b1.FnNumberFormMinusSign", spec := "fnNumberFormMinusSign", apart := false }
def FnNumberFormMinusSignSaid : Prop := fnNumberFormMinusSignRow.holds Try.pinned (OpenSpec.ofChange fnNumberFormMinusSignSpec)

/-- ITS FALSE NEIGHBOUR: 'it returns false'. Refute it at one input. -/
def fnNumberFormMinusSignWrong : ChangeSpec := { name := "fnNumberFormMinusSign", fn := fun _ => fun
  | [d] => { results := [.lit (.bool false)], args := [d] }
  | _ => none }
def FnNumberFormMinusSignWrongFalsely : Prop := fnNumberFormMinusSignRow.holds Try.pinned (OpenSpec.ofChange fnNumberFormMinusSignWrong)

/-- 'zzlaws_pkg_scalar_b1.FnNewPatternCollapsesPercentRuns': WHATEVER THE INPUT: true; the input reads as it did. -/
def fnNewPatternCollapsesPercentRunsSpec : ChangeSpec := { name := "fnNewPatternCollapsesPercentRuns", fn := fun _ => fun
  | [d1, d2] => { results := [.lit (.bool true)], args := [d1, d2] }
  | _ => none }
def fnNewPatternCollapsesPercentRunsRow : OpenClaim := { program := "qxb6617207a", sum := "e0a8ad98c2ba17a50e5d347328e6526dd80f7b34f408704f59b256f385dfd4c8", func := "example.com/tributary/tributary/zzlaws_pkg_scalar_b1.FnNewPatternCollapsesPercentRuns", spec := "fnNewPatternCollapsesPercentRuns", apart := false }
def FnNewPatternCollapsesPercentRunsSaid : Prop := fnNewPatternCollapsesPercentRunsRow.holds Try.pinned (OpenSpec.ofChange fnNewPatternCollapsesPercentRunsSpec)

/-- ITS FALSE NEIGHBOUR: 'it returns false'. Refute it at one input. -/
def fnNewPatternCollapsesPercentRunsWrong : ChangeSpec := { name := "fnNewPatternCollapsesPercentRuns", fn := fun _ => fun
  | [d1, d2] => { results := [.lit (.bool false)], args := [d1, d2] }
  | _ => none }
def FnNewPatternCollapsesPercentRunsWrongFalsely : Prop := fnNewPatternCollapsesPercentRunsRow.holds Try.pinned (OpenSpec.ofChange fnNewPatternCollapsesPercentRunsWrong)

/-- 'zzlaws_pkg_scalar_b1.FnNewPatternFoldLeavesRunes': WHATEVER THE INPUT: true; the input reads as it did. -/
def fnNewPatternFoldLeavesRunesSpec : ChangeSpec := { name := "fnNewPatternFoldLeavesRunes", fn := fun _ => fun
  | [d] => { results := [.lit (.bool true)], args := [d] }
  | _ => none }
def fnNewPatternFoldLeavesRunesRow : OpenClaim := { program := "qxb6617207a", sum := "e0a8ad98c2ba17a50e5d347328e6526dd80f7b34f408704f59b256f385dfd4c8", func := "example.com/tributary/tributary/zzlaws_pkg_scalar_b1.FnNewPatternFoldLeavesRunes", spec := "fnNewPatternFoldLeavesRunes", apart := false }
def FnNewPatternFoldLeavesRunesSaid : Prop := fnNewPatternFoldLeavesRunesRow.holds Try.pinned (OpenSpec.ofChange fnNewPatternFoldLeavesRunesSpec)

/-- ITS FALSE NEIGHBOUR: 'it returns false'. Refute it at one input. -/
def fnNewPatternFoldLeavesRunesWrong : ChangeSpec := { name := "fnNewPatternFoldLeavesRunes", fn := fun _ => fun
  | [d] => { results := [.lit (.bool false)], args := [d] }
  | _ => none }
def FnNewPatternFoldLeavesRunesWrongFalsely : Prop := fnNewPatternFoldLeavesRunesRow.holds Try.pinned (OpenSpec.ofChange fnNewPatternFoldLeavesRunesWrong)

end Rows
end Go.Proofs.Qxb6617207a
