/-
  No cell of these rows narrows 'for every input' (looked for: loops, veiled, ifaces, maps, wideKeys, modest, calm, conditions, laid).
  DERIVED. THE GIVEN ROWS OF THIS SEAT. 2 by the template 'for every input the law returns true; each argument reads behind the call as it read before'; 0 by the template 'total and deterministic' (their statements: Qxb6628350aTotals.lean).
  GIVEN WITH THE SEED: the statements are not yours to turn. If you find one false, say at which input.
  Laid BY PROGRAM, IN A SANDBOX (cutbox-rows.mjs): the forced cells as the released guide's own fill.sh prints them over the translation 23730b28104c9546… (all of the seat's roots in one cut). By AI agents, Wed Nov 11 2026. No macro, syntax, notation, axiom, sorry.
-/
import Derived.Test.Qxb6628350aChecked
import GoSem.Claim
import GoSem.ClaimJoined
import GoSem.ClaimMapViews
import Derived.JoinedTies
import Derived.KernelRfl
namespace Go.Proofs.Qxb6628350a
/- THE CELL 'sum', in the pinned program and in every row, IS THE sha256 OF THE DUMP (.gsa) THAT Qxb6628350aProg.lean LOADS. Nothing in Lean hashes anything: it is a label: what it is worth is what the hold of that sum in a sandbox is worth. -/
noncomputable def Try.pinned : Pinned := { name := "qxb6628350a", sum := "23730b28104c9546e07bc6bde58e8bf8425ba353098b44a3417be235e7d52c26", checked := Try.checked }
namespace Rows
def none {H : Type} : Left H := { results := [], args := [] }

/-- 'zzlaws_internal_topology_b1.FnStackStringSameNameExactlySameFamily': WHATEVER THE INPUT: true; the input reads as it did. -/
def fnStackStringSameNameExactlySameFamilySpec : ChangeSpec := { name := "fnStackStringSameNameExactlySameFamily", fn := fun _ => fun
  | [d1, d2] => { results := [.lit (.bool true)], args := [d1, d2] }
  | _ => none }
def fnStackStringSameNameExactlySameFamilyRow : OpenClaim := { program := "qxb6628350a", sum := "23730b28104c9546e07bc6bde58e8bf8425ba353098b44a3417be235e7d52c26", func := "example.com/bradawl/bradawl/zzlaws_internal_topology_b1.FnStackStringSameNameExactlySameFamily", spec := "fnStackStringSameNameExactlySameFamily", apart := false }
def FnStackStringSameNameExactlySameFamilySaid : Prop := fnStackStringSameNameExactlySameFamilyRow.holds Try.pinned (OpenSpec.ofChange fnStackStringSameNameExactlySameFamilySpec)

/-- ITS FALSE NEIGHBOUR: 'it returns false'. Refute it at one input. -/
def fnStackStringSameNameExactlySameFamilyWrong : ChangeSpec := { name := "fnStackStringSameNameExactlySameFamily", fn := fun _ => fun
  | [d1, d2] => { results := [.lit (.bool false)], args := [d1, d2] }
  | _ => none }
def FnStackStringSameNameExactlySameFamilyWrongFalsely : Prop := fnStackStringSameNameExactlySameFamilyRow.holds Try.pinned (OpenSpec.ofChange fnStackStringSameNameExactlySameFamilyWrong)

/-- 'zzlaws_internal_topology_b1.FnStackStringOutsideDeclaredReadsAsDefault': WHATEVER THE INPUT: true; the input reads as it did. -/
def fnStackStringOutsideDeclaredReadsAsDefaultSpec : ChangeSpec := { name := "fnStackStringOutsideDeclaredReadsAsDefault", fn := fun _ => fun
  | [d] => { results := [.lit (.bool true)], args := [d] }
  | _ => none }
def fnStackStringOutsideDeclaredReadsAsDefaultRow : OpenClaim := { program := "qxb6628350a", sum := "23730b28104c9546e07bc6bde58e8bf8425ba353098b44a3417be235e7d52c26", func := "example.com/bradawl/bradawl/zzlaws_internal_topology_b1.FnStackStringOutsideDeclaredReadsAsDefault", spec := "fnStackStringOutsideDeclaredReadsAsDefault", apart := false }
def FnStackStringOutsideDeclaredReadsAsDefaultSaid : Prop := fnStackStringOutsideDeclaredReadsAsDefaultRow.holds Try.pinned (OpenSpec.ofChange fnStackStringOutsideDeclaredReadsAsDefaultSpec)

/-- ITS FALSE NEIGHBOUR: 'it returns false'. Refute it at one input. -/
def fnStackStringOutsideDeclaredReadsAsDefaultWrong : ChangeSpec := { name := "fnStackStringOutsideDeclaredReadsAsDefault", fn := fun _ => fun
  | [d] => { results := [.lit (.bool false)], args := [d] }
  | _ => none }
def FnStackStringOutsideDeclaredReadsAsDefaultWrongFalsely : Prop := fnStackStringOutsideDeclaredReadsAsDefaultRow.holds Try.pinned (OpenSpec.ofChange fnStackStringOutsideDeclaredReadsAsDefaultWrong)

end Rows
end Go.Proofs.Qxb6628350a
