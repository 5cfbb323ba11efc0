/-
  No cell of these rows narrows 'for every input' (looked for: loops, veiled, ifaces, maps, wideKeys, modest, calm, conditions, laid).
  DERIVED. THE GIVEN ROWS OF THIS SEAT. 3 by the template 'for every input the law returns true; each argument reads behind the call as it read before'; 0 by the template 'total and deterministic' (their statements: Qxb6617422aTotals.lean).
  GIVEN WITH THE SEED: the statements are not yours to turn. If you find one false, say at which input.
  Laid BY PROGRAM, IN A SANDBOX (cutbox-rows.mjs): the forced cells as the released guide's own fill.sh prints them over the translation 528d1c3b66ea34e8… (all of the seat's roots in one cut). By AI agents, Wed Nov 11 2026. No macro, syntax, notation, axiom, sorry.
-/
import Derived.Test.Qxb6617422aChecked
import GoSem.Claim
import GoSem.ClaimJoined
import GoSem.ClaimMapViews
import Derived.JoinedTies
import Derived.KernelRfl
namespace Go.Proofs.Qxb6617422a
/- THE CELL 'sum', in the pinned program and in every row, IS THE sha256 OF THE DUMP (.gsa) THAT Qxb6617422aProg.lean LOADS. Nothing in Lean hashes anything: it is a label: what it is worth is what the hold of that sum in a sandbox is worth. -/
noncomputable def Try.pinned : Pinned := { name := "qxb6617422a", sum := "528d1c3b66ea34e8564f8e427c8de239c541de5975b27f599b37a9fab419d228", checked := Try.checked }
namespace Rows
def none {H : Type} : Left H := { results := [], args := [] }

/-- 'zzlaws_spantree_b1.FnChildNameSeparatesClasses': WHATEVER THE INPUT: true; the input reads as it did. -/
def fnChildNameSeparatesClassesSpec : ChangeSpec := { name := "fnChildNameSeparatesClasses", fn := fun _ => fun
  | [d1, d2, d3, d4] => { results := [.lit (.bool true)], args := [d1, d2, d3, d4] }
  | _ => none }
def fnChildNameSeparatesClassesRow : OpenClaim := { program := "qxb6617422a", sum := "528d1c3b66ea34e8564f8e427c8de239c541de5975b27f599b37a9fab419d228", func := "example.com/elapsemap/elapsemap/zzlaws_spantree_b1.FnChildNameSeparatesClasses", spec := "fnChildNameSeparatesClasses", apart := false }
def FnChildNameSeparatesClassesSaid : Prop := fnChildNameSeparatesClassesRow.holds Try.pinned (OpenSpec.ofChange fnChildNameSeparatesClassesSpec)

/-- ITS FALSE NEIGHBOUR: 'it returns false'. Refute it at one input. -/
def fnChildNameSeparatesClassesWrong : ChangeSpec := { name := "fnChildNameSeparatesClasses", fn := fun _ => fun
  | [d1, d2, d3, d4] => { results := [.lit (.bool false)], args := [d1, d2, d3, d4] }
  | _ => none }
def FnChildNameSeparatesClassesWrongFalsely : Prop := fnChildNameSeparatesClassesRow.holds Try.pinned (OpenSpec.ofChange fnChildNameSeparatesClassesWrong)

/-- 'zzlaws_spantree_b1.FnParentSIDSplitsAtLastSlash': WHATEVER THE INPUT: true; the input reads as it did. -/
def fnParentSIDSplitsAtLastSlashSpec : ChangeSpec := { name := "fnParentSIDSplitsAtLastSlash", fn := fun _ => fun
  | [d1, d2] => { results := [.lit (.bool true)], args := [d1, d2] }
  | _ => none }
def fnParentSIDSplitsAtLastSlashRow : OpenClaim := { program := "qxb6617422a", sum := "528d1c3b66ea34e8564f8e427c8de239c541de5975b27f599b37a9fab419d228", func := "example.com/elapsemap/elapsemap/zzlaws_spantree_b1.FnParentSIDSplitsAtLastSlash", spec := "fnParentSIDSplitsAtLastSlash", apart := false }
def FnParentSIDSplitsAtLastSlashSaid : Prop := fnParentSIDSplitsAtLastSlashRow.holds Try.pinned (OpenSpec.ofChange fnParentSIDSplitsAtLastSlashSpec)

/-- ITS FALSE NEIGHBOUR: 'it returns false'. Refute it at one input. -/
def fnParentSIDSplitsAtLastSlashWrong : ChangeSpec := { name := "fnParentSIDSplitsAtLastSlash", fn := fun _ => fun
  | [d1, d2] => { results := [.lit (.bool false)], args := [d1, d2] }
  | _ => none }
def FnParentSIDSplitsAtLastSlashWrongFalsely : Prop := fnParentSIDSplitsAtLastSlashRow.holds Try.pinned (OpenSpec.ofChange fnParentSIDSplitsAtLastSlashWrong)

/-- 'zzlaws_spantree_b1.FnParentSIDAncestorChain': WHATEVER THE INPUT: true; the input reads as it did. -/
def fnParentSIDAncestorChainSpec : ChangeSpec := { name := "fnParentSIDAncestorChain", fn := fun _ => fun
  | [d] => { results := [.lit (.bool true)], args := [d] }
  | _ => none }
def fnParentSIDAncestorChainRow : OpenClaim := { program := "qxb6617422a", sum := "528d1c3b66ea34e8564f8e427c8de239c541de5975b27f599b37a9fab419d228", func := "example.com/elapsemap/elapsemap/zzlaws_spantree_b1.FnParentSIDAncestorChain", spec := "fnParentSIDAncestorChain", apart := false }
def FnParentSIDAncestorChainSaid : Prop := fnParentSIDAncestorChainRow.holds Try.pinned (OpenSpec.ofChange fnParentSIDAncestorChainSpec)

/-- ITS FALSE NEIGHBOUR: 'it returns false'. Refute it at one input. -/
def fnParentSIDAncestorChainWrong : ChangeSpec := { name := "fnParentSIDAncestorChain", fn := fun _ => fun
  | [d] => { results := [.lit (.bool false)], args := [d] }
  | _ => none }
def FnParentSIDAncestorChainWrongFalsely : Prop := fnParentSIDAncestorChainRow.holds Try.pinned (OpenSpec.ofChange fnParentSIDAncestorChainWrong)

end Rows
end Go.Proofs.Qxb6617422a
