/-
  No cell of these rows narrows 'for every input' (looked for: loops, veiled, ifaces, maps, wideKeys, modest, calm, conditions, laid).
  DERIVED. THE GIVEN ROWS OF THIS SEAT. 3 by the template 'for every input the law returns true; each argument reads behind the call as it read before'; 0 by the template 'total and deterministic' (their statements: Qxb6619687aTotals.lean).
  GIVEN WITH THE SEED: the statements are not yours to turn. If you find one false, say at which input.
  Laid BY PROGRAM, IN A SANDBOX (cutbox-rows.mjs): the forced cells as the released guide's own fill.sh prints them over the translation 297fb71f171a45bf… (all of the seat's roots in one cut). By AI agents, Wed Nov 11 2026. No macro, syntax, notation, axiom, sorry.
-/
import Derived.Test.Qxb6619687aChecked
import GoSem.Claim
import GoSem.ClaimJoined
import GoSem.ClaimMapViews
import Derived.JoinedTies
import Derived.KernelRfl
namespace Go.Proofs.Qxb6619687a
/- THE CELL 'sum', in the pinned program and in every row, IS THE sha256 OF THE DUMP (.gsa) THAT Qxb6619687aProg.lean LOADS. Nothing in Lean hashes anything: it is a label: what it is worth is what the hold of that sum in a sandbox is worth. -/
noncomputable def Try.pinned : Pinned := { name := "qxb6619687a", sum := "297fb71f171a45bfcf31059c5d642fee73656b8ee8f3dcf1ff69eaaa180855c7", checked := Try.checked }
namespace Rows
def none {H : Type} : Left H := { results := [], args := [] }

/-- 'zzlaws_internal_base58_b1.FnEncodeMatchesLongDivision': WHATEVER THE INPUT: true; the input reads as it did. -/
def fnEncodeMatchesLongDivisionSpec : ChangeSpec := { name := "fnEncodeMatchesLongDivision", fn := fun _ => fun
  | [d] => { results := [.lit (.bool true)], args := [d] }
  | _ => none }
def fnEncodeMatchesLongDivisionRow : OpenClaim := { program := "qxb6619687a", sum := "297fb71f171a45bfcf31059c5d642fee73656b8ee8f3dcf1ff69eaaa180855c7", func := "example.com/cairn/cairn/zzlaws_internal_base58_b1.FnEncodeMatchesLongDivision", spec := "fnEncodeMatchesLongDivision", apart := false }
def FnEncodeMatchesLongDivisionSaid : Prop := fnEncodeMatchesLongDivisionRow.holds Try.pinned (OpenSpec.ofChange fnEncodeMatchesLongDivisionSpec)

/-- ITS FALSE NEIGHBOUR: 'it returns false'. Refute it at one input. -/
def fnEncodeMatchesLongDivisionWrong : ChangeSpec := { name := "fnEncodeMatchesLongDivision", fn := fun _ => fun
  | [d] => { results := [.lit (.bool false)], args := [d] }
  | _ => none }
def FnEncodeMatchesLongDivisionWrongFalsely : Prop := fnEncodeMatchesLongDivisionRow.holds Try.pinned (OpenSpec.ofChange fnEncodeMatchesLongDivisionWrong)

/-- 'zzlaws_internal_base58_b1.FnEncodeDecodesBackCanonically': WHATEVER THE INPUT: true; the input reads as it did. -/
def fnEncodeDecodesBackCanonicallySpec : ChangeSpec := { name := "fnEncodeDecodesBackCanonically", fn := fun _ => fun
  | [d] => { results := [.lit (.bool true)], args := [d] }
  | _ => none }
def fnEncodeDecodesBackCanonicallyRow : OpenClaim := { program := "qxb6619687a", sum := "297fb71f171a45bfcf31059c5d642fee73656b8ee8f3dcf1ff69eaaa180855c7", func := "example.com/cairn/cairn/zzlaws_internal_base58_b1.FnEncodeDecodesBackCanonically", spec := "fnEncodeDecodesBackCanonically", apart := false }
def FnEncodeDecodesBackCanonicallySaid : Prop := fnEncodeDecodesBackCanonicallyRow.holds Try.pinned (OpenSpec.ofChange fnEncodeDecodesBackCanonicallySpec)

/-- ITS FALSE NEIGHBOUR: 'it returns false'. Refute it at one input. -/
def fnEncodeDecodesBackCanonicallyWrong : ChangeSpec := { name := "fnEncodeDecodesBackCanonically", fn := fun _ => fun
  | [d] => { results := [.lit (.bool false)], args := [d] }
  | _ => none }
def FnEncodeDecodesBackCanonicallyWrongFalsely : Prop := fnEncodeDecodesBackCanonicallyRow.holds Try.pinned (OpenSpec.ofChange fnEncodeDecodesBackCanonicallyWrong)

/-- 'zzlaws_internal_base58_b1.FnEncodeLeadingZerosBecomeOnes': WHATEVER THE INPUT: true; the input reads as it did. -/
def fnEncodeLeadingZerosBecomeOnesSpec : ChangeSpec := { name := "fnEncodeLeadingZerosBecomeOnes", fn := fun _ => fun
  | [d1, d2] => { results := [.lit (.bool true)], args := [d1, d2] }
  | _ => none }
def fnEncodeLeadingZerosBecomeOnesRow : OpenClaim := { program := "qxb6619687a", sum := "297fb71f171a45bfcf31059c5d642fee73656b8ee8f3dcf1ff69eaaa180855c7", func := "example.com/cairn/cairn/zzlaws_internal_base58_b1.FnEncodeLeadingZerosBecomeOnes", spec := "fnEncodeLeadingZerosBecomeOnes", apart := false }
def FnEncodeLeadingZerosBecomeOnesSaid : Prop := fnEncodeLeadingZerosBecomeOnesRow.holds Try.pinned (OpenSpec.ofChange fnEncodeLeadingZerosBecomeOnesSpec)

/-- ITS FALSE NEIGHBOUR: 'it returns false'. Refute it at one input. -/
def fnEncodeLeadingZerosBecomeOnesWrong : ChangeSpec := { name := "fnEncodeLeadingZerosBecomeOnes", fn := fun _ => fun
  | [d1, d2] => { results := [.lit (.bool false)], args := [d1, d2] }
  | _ => none }
def FnEncodeLeadingZerosBecomeOnesWrongFalsely : Prop := fnEncodeLeadingZerosBecomeOnesRow.holds Try.pinned (OpenSpec.ofChange fnEncodeLeadingZerosBecomeOnesWrong)

end Rows
end Go.Proofs.Qxb6619687a
