/-
  No cell of these rows narrows 'for every input' (looked for: loops, veiled, ifaces, maps, wideKeys, modest, calm, conditions, laid).
  DERIVED. THE GIVEN ROWS OF THIS SEAT. 2 by the template 'for every input the law returns true; each argument reads behind the call as it read before'; 0 by the template 'total and deterministic' (their statements: Qxb6628382aTotals.lean).
  GIVEN WITH THE SEED: the statements are not yours to turn. If you find one false, say at which input.
  Laid BY PROGRAM, IN A SANDBOX (cutbox-rows.mjs): the forced cells as the released guide's own fill.sh prints them over the translation 3519452040bcc8e3… (all of the seat's roots in one cut). By AI agents, Wed Nov 11 2026. No macro, syntax, notation, axiom, sorry.
-/
import Derived.Test.Qxb6628382aChecked
import GoSem.Claim
import GoSem.ClaimJoined
import GoSem.ClaimMapViews
import Derived.JoinedTies
import Derived.KernelRfl
namespace Go.Proofs.Qxb6628382a
/- THE CELL 'sum', in the pinned program and in every row, IS THE sha256 OF THE DUMP (.gsa) THAT Qxb6628382aProg.lean LOADS. Nothing in Lean hashes anything: it is a label: what it is worth is what the hold of that sum in a sandbox is worth. -/
noncomputable def Try.pinned : Pinned := { name := "qxb6628382a", sum := "3519452040bcc8e3125784e270c392a2521ce5b5e0f1c6f5245802fa31482bad", checked := Try.checked }
namespace Rows
def none {H : Type} : Left H := { results := [], args := [] }

/-- 'zzlaws_root_b1.FnHasShapeInstanceSpec': WHATEVER THE INPUT: true; the input reads as it did. -/
def fnHasShapeInstanceSpecSpec : ChangeSpec := { name := "fnHasShapeInstanceSpec", fn := fun _ => fun
  | [d1, d2, d3, d4] => { results := [.lit (.bool true)], args := [d1, d2, d3, d4] }
  | _ => none }
def fnHasShapeInstanceSpecRow : OpenClaim := { program := "qxb6628382a", sum := "3519452040bcc8e3125784e270c392a2521ce5b5e0f1c6f5245802fa31482bad", func := "example.com/bare-keys/bare-keys/zzlaws_root_b1.FnHasShapeInstanceSpec", spec := "fnHasShapeInstanceSpec", apart := false }
def FnHasShapeInstanceSpecSaid : Prop := fnHasShapeInstanceSpecRow.holds Try.pinned (OpenSpec.ofChange fnHasShapeInstanceSpecSpec)

/-- ITS FALSE NEIGHBOUR: 'it returns false'. Refute it at one input. -/
def fnHasShapeInstanceSpecWrong : ChangeSpec := { name := "fnHasShapeInstanceSpec", fn := fun _ => fun
  | [d1, d2, d3, d4] => { results := [.lit (.bool false)], args := [d1, d2, d3, d4] }
  | _ => none }
def FnHasShapeInstanceSpecWrongFalsely : Prop := fnHasShapeInstanceSpecRow.holds Try.pinned (OpenSpec.ofChange fnHasShapeInstanceSpecWrong)

/-- 'zzlaws_root_b1.FnHasShapeSelfShapeAndTail': WHATEVER THE INPUT: true; the input reads as it did. -/
def fnHasShapeSelfShapeAndTailSpec : ChangeSpec := { name := "fnHasShapeSelfShapeAndTail", fn := fun _ => fun
  | [d1, d2, d3] => { results := [.lit (.bool true)], args := [d1, d2, d3] }
  | _ => none }
def fnHasShapeSelfShapeAndTailRow : OpenClaim := { program := "qxb6628382a", sum := "3519452040bcc8e3125784e270c392a2521ce5b5e0f1c6f5245802fa31482bad", func := "example.com/bare-keys/bare-keys/zzlaws_root_b1.FnHasShapeSelfShapeAndTail", spec := "fnHasShapeSelfShapeAndTail", apart := false }
def FnHasShapeSelfShapeAndTailSaid : Prop := fnHasShapeSelfShapeAndTailRow.holds Try.pinned (OpenSpec.ofChange fnHasShapeSelfShapeAndTailSpec)

/-- ITS FALSE NEIGHBOUR: 'it returns false'. Refute it at one input. -/
def fnHasShapeSelfShapeAndTailWrong : ChangeSpec := { name := "fnHasShapeSelfShapeAndTail", fn := fun _ => fun
  | [d1, d2, d3] => { results := [.lit (.bool false)], args := [d1, d2, d3] }
  | _ => none }
def FnHasShapeSelfShapeAndTailWrongFalsely : Prop := fnHasShapeSelfShapeAndTailRow.holds Try.pinned (OpenSpec.ofChange fnHasShapeSelfShapeAndTailWrong)

end Rows
end Go.Proofs.Qxb6628382a
