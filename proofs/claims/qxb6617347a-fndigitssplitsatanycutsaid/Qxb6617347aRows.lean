/-
  No cell of these rows narrows 'for every input' (looked for: loops, veiled, ifaces, maps, wideKeys, modest, calm, conditions, laid).
  DERIVED. THE GIVEN ROWS OF THIS SEAT. 4 by the template 'for every input the law returns true; each argument reads behind the call as it read before'; 0 by the template 'total and deterministic' (their statements: Qxb6617347aTotals.lean).
  GIVEN WITH THE SEED: the statements are not yours to turn. If you find one false, say at which input.
  Laid BY PROGRAM, IN A SANDBOX (cutbox-rows.mjs): the forced cells as the released guide's own fill.sh prints them over the translation a5a25a173c180ea4… (all of the seat's roots in one cut). By AI agents, Wed Nov 11 2026. No macro, syntax, notation, axiom, sorry.
-/
import Derived.Test.Qxb6617347aChecked
import GoSem.Claim
import GoSem.ClaimJoined
import GoSem.ClaimMapViews
import Derived.JoinedTies
import Derived.KernelRfl
namespace Go.Proofs.Qxb6617347a
/- THE CELL 'sum', in the pinned program and in every row, IS THE sha256 OF THE DUMP (.gsa) THAT Qxb6617347aProg.lean LOADS. Nothing in Lean hashes anything: it is a label: what it is worth is what the hold of that sum in a sandbox is worth. -/
noncomputable def Try.pinned : Pinned := { name := "qxb6617347a", sum := "a5a25a173c180ea456726cf640375cb271f060c285f4a809d37f960ff4893691", checked := Try.checked }
namespace Rows
def none {H : Type} : Left H := { results := [], args := [] }

/-- 'zzlaws_http1_b1.FnDigitsIsDecimalValue': WHATEVER THE INPUT: true; the input reads as it did. -/
def fnDigitsIsDecimalValueSpec : ChangeSpec := { name := "fnDigitsIsDecimalValue", fn := fun _ => fun
  | [d] => { results := [.lit (.bool true)], args := [d] }
  | _ => none }
def fnDigitsIsDecimalValueRow : OpenClaim := { program := "qxb6617347a", sum := "a5a25a173c180ea456726cf640375cb271f060c285f4a809d37f960ff4893691", func := "example.com/exposure/exposure/zzlaws_http1_b1.FnDigitsIsDecimalValue", spec := "fnDigitsIsDecimalValue", apart := false }
def FnDigitsIsDecimalValueSaid : Prop := fnDigitsIsDecimalValueRow.holds Try.pinned (OpenSpec.ofChange fnDigitsIsDecimalValueSpec)

/-- ITS FALSE NEIGHBOUR: 'it returns false'. Refute it at one input. -/
def fnDigitsIsDecimalValueWrong : ChangeSpec := { name := "fnDigitsIsDecimalValue", fn := fun _ => fun
  | [d] => { results := [.lit (.bool false)], args := [d] }
  | _ => none }
def FnDigitsIsDecimalValueWrongFalsely : Prop := fnDigitsIsDecimalValueRow.holds Try.pinned (OpenSpec.ofChange fnDigitsIsDecimalValueWrong)

/-- 'zzlaws_http1_b1.FnDigitsSplitsAtAnyCut': WHATEVER THE INPUT: true; the input reads as it did. -/
def fnDigitsSplitsAtAnyCutSpec : ChangeSpec := { name := "fnDigitsSplitsAtAnyCut", fn := fun _ => fun
  | [d1, d2] => { results := [.lit (.bool true)], args := [d1, d2] }
  | _ => none }
def fnDigitsSplitsAtAnyCutRow : OpenClaim := { program := "qxb6617347a", sum := "a5a25a173c180ea456726cf640375cb271f060c285f4a809d37f960ff4893691", func := "example.com/exposure/exposure/zzlaws_http1_b1.FnDigitsSplitsAtAnyCut", spec := "fnDigitsSplitsAtAnyCut", apart := false }
def FnDigitsSplitsAtAnyCutSaid : Prop := fnDigitsSplitsAtAnyCutRow.holds Try.pinned (OpenSpec.ofChange fnDigitsSplitsAtAnyCutSpec)

/-- ITS FALSE NEIGHBOUR: 'it returns false'. Refute it at one input. -/
def fnDigitsSplitsAtAnyCutWrong : ChangeSpec := { name := "fnDigitsSplitsAtAnyCut", fn := fun _ => fun
  | [d1, d2] => { results := [.lit (.bool false)], args := [d1, d2] }
  | _ => none }
def FnDigitsSplitsAtAnyCutWrongFalsely : Prop := fnDigitsSplitsAtAnyCutRow.holds Try.pinned (OpenSpec.ofChange fnDigitsSplitsAtAnyCutWrong)

/-- 'zzlaws_http1_b1.FnIsTargetInsertAnyByteAnywhere': WHATEVER THE INPUT: true; the input reads as it did. -/
def fnIsTargetInsertAnyByteAnywhereSpec : ChangeSpec := { name := "fnIsTargetInsertAnyByteAnywhere", fn := fun _ => fun
  | [d1, d2, d3] => { results := [.lit (.bool true)], args := [d1, d2, d3] }
  | _ => none }
def fnIsTargetInsertAnyByteAnywhereRow : OpenClaim := { program := "qxb6617347a", sum := "a5a25a173c180ea456726cf640375cb271f060c285f4a809d37f960ff4893691", func := "example.com/exposure/exposure/zzlaws_http1_b1.FnIsTargetInsertAnyByteAnywhere", spec := "fnIsTargetInsertAnyByteAnywhere", apart := false }
def FnIsTargetInsertAnyByteAnywhereSaid : Prop := fnIsTargetInsertAnyByteAnywhereRow.holds Try.pinned (OpenSpec.ofChange fnIsTargetInsertAnyByteAnywhereSpec)

/-- ITS FALSE NEIGHBOUR: 'it returns false'. Refute it at one input. -/
def fnIsTargetInsertAnyByteAnywhereWrong : ChangeSpec := { name := "fnIsTargetInsertAnyByteAnywhere", fn := fun _ => fun
  | [d1, d2, d3] => { results := [.lit (.bool false)], args := [d1, d2, d3] }
  | _ => none }
def FnIsTargetInsertAnyByteAnywhereWrongFalsely : Prop := fnIsTargetInsertAnyByteAnywhereRow.holds Try.pinned (OpenSpec.ofChange fnIsTargetInsertAnyByteAnywhereWrong)

/-- 'zzlaws_http1_b1.FnEqualFoldMatchesPreimageOfEachLetter': WHATEVER THE INPUT: true; the input reads as it did. -/
def fnEqualFoldMatchesPreimageOfEachLetterSpec : ChangeSpec := { name := "fnEqualFoldMatchesPreimageOfEachLetter", fn := fun _ => fun
  | [d1, d2] => { results := [.lit (.bool true)], args := [d1, d2] }
  | _ => none }
def fnEqualFoldMatchesPreimageOfEachLetterRow : OpenClaim := { program := "qxb6617347a", sum := "a5a25a173c180ea456726cf640375cb271f060c285f4a809d37f960ff4893691", func := "example.com/exposure/exposure/zzlaws_http1_b1.FnEqualFoldMatchesPreimageOfEachLetter", spec := "fnEqualFoldMatchesPreimageOfEachLetter", apart := false }
def FnEqualFoldMatchesPreimageOfEachLetterSaid : Prop := fnEqualFoldMatchesPreimageOfEachLetterRow.holds Try.pinned (OpenSpec.ofChange fnEqualFoldMatchesPreimageOfEachLetterSpec)

/-- ITS FALSE NEIGHBOUR: 'it returns false'. Refute it at one input. -/
def fnEqualFoldMatchesPreimageOfEachLetterWrong : ChangeSpec := { name := "fnEqualFoldMatchesPreimageOfEachLetter", fn := fun _ => fun
  | [d1, d2] => { results := [.lit (.bool false)], args := [d1, d2] }
  | _ => none }
def FnEqualFoldMatchesPreimageOfEachLetterWrongFalsely : Prop := fnEqualFoldMatchesPreimageOfEachLetterRow.holds Try.pinned (OpenSpec.ofChange fnEqualFoldMatchesPreimageOfEachLetterWrong)

end Rows
end Go.Proofs.Qxb6617347a
