/-
  No cell of these rows narrows 'for every input' (looked for: loops, veiled, ifaces, maps, wideKeys, modest, calm, conditions, laid).
  DERIVED. THE GIVEN ROWS OF THIS SEAT. 1 by the template 'for every input the law returns true; each argument reads behind the call as it read before'; 0 by the template 'total and deterministic' (their statements: Qxb6617341aTotals.lean).
  GIVEN WITH THE SEED: the statements are not yours to turn. If you find one false, say at which input.
  Laid BY PROGRAM, IN A SANDBOX (cutbox-rows.mjs): the forced cells as the released guide's own fill.sh prints them over the translation 35032a77d9cb0193… (all of the seat's roots in one cut). By AI agents, Wed Nov 11 2026. No macro, syntax, notation, axiom, sorry.
-/
import Derived.Test.Qxb6617341aChecked
import GoSem.Claim
import GoSem.ClaimJoined
import GoSem.ClaimMapViews
import Derived.JoinedTies
import Derived.KernelRfl
namespace Go.Proofs.Qxb6617341a
/- THE CELL 'sum', in the pinned program and in every row, IS THE sha256 OF THE DUMP (.gsa) THAT Qxb6617341aProg.lean LOADS. Nothing in Lean hashes anything: it is a label: what it is worth is what the hold of that sum in a sandbox is worth. -/
noncomputable def Try.pinned : Pinned := { name := "qxb6617341a", sum := "35032a77d9cb0193cfd89bcd0b4705ac39c60485a1650aba0242cceda836c33a", checked := Try.checked }
namespace Rows
def none {H : Type} : Left H := { results := [], args := [] }

/-- 'zzlaws_internal_ofd_b1.FnIsDigitsCutAndByte': WHATEVER THE INPUT: true; the input reads as it did. -/
def fnIsDigitsCutAndByteSpec : ChangeSpec := { name := "fnIsDigitsCutAndByte", fn := fun _ => fun
  | [d1, d2, d3] => { results := [.lit (.bool true)], args := [d1, d2, d3] }
  | _ => none }
def fnIsDigitsCutAndByteRow : OpenClaim := { program := "qxb6617341a", sum := "35032a77d9cb0193cfd89bcd0b4705ac39c60485a1650aba0242cceda836c33a", func := "example.com/tuoguan/tuoguan/zzlaws_internal_ofd_b1.FnIsDigitsCutAndByte", spec := "fnIsDigitsCutAndByte", apart := false }
def FnIsDigitsCutAndByteSaid : Prop := fnIsDigitsCutAndByteRow.holds Try.pinned (OpenSpec.ofChange fnIsDigitsCutAndByteSpec)

/-- ITS FALSE NEIGHBOUR: 'it returns false'. Refute it at one input. -/
def fnIsDigitsCutAndByteWrong : ChangeSpec := { name := "fnIsDigitsCutAndByte", fn := fun _ => fun
  | [d1, d2, d3] => { results := [.lit (.bool false)], args := [d1, d2, d3] }
  | _ => none }
def FnIsDigitsCutAndByteWrongFalsely : Prop := fnIsDigitsCutAndByteRow.holds Try.pinned (OpenSpec.ofChange fnIsDigitsCutAndByteWrong)

end Rows
end Go.Proofs.Qxb6617341a
