/-
  No cell of these rows narrows 'for every input' (looked for: loops, veiled, ifaces, maps, wideKeys, modest, calm, conditions, laid).
  DERIVED. THE GIVEN ROWS OF THIS SEAT. 2 by the template 'for every input the law returns true; each argument reads behind the call as it read before'; 0 by the template 'total and deterministic' (their statements: Qxb6628493aTotals.lean).
  GIVEN WITH THE SEED: the statements are not yours to turn. If you find one false, say at which input.
  Laid BY PROGRAM, IN A SANDBOX (cutbox-rows.mjs): the forced cells as the released guide's own fill.sh prints them over the translation 58df4f993f83abb8… (all of the seat's roots in one cut). By AI agents, Wed Nov 11 2026. No macro, syntax, notation, axiom, sorry.
-/
import Derived.Test.Qxb6628493aChecked
import GoSem.Claim
import GoSem.ClaimJoined
import GoSem.ClaimMapViews
import Derived.JoinedTies
import Derived.KernelRfl
namespace Go.Proofs.Qxb6628493a
/- THE CELL 'sum', in the pinned program and in every row, IS THE sha256 OF THE DUMP (.gsa) THAT Qxb6628493aProg.lean LOADS. Nothing in Lean hashes anything: it is a label: what it is worth is what the hold of that sum in a sandbox is worth. -/
noncomputable def Try.pinned : Pinned := { name := "qxb6628493a", sum := "58df4f993f83abb8db77a0554a782b156d8deb9d84ad276486cc2a29c9ea185e", checked := Try.checked }
namespace Rows
def none {H : Type} : Left H := { results := [], args := [] }

/-- 'zzlaws_internal_field_b1.FnColumnCutAtAnyRow': WHATEVER THE INPUT: true; the input reads as it did. -/
def fnColumnCutAtAnyRowSpec : ChangeSpec := { name := "fnColumnCutAtAnyRow", fn := fun _ => fun
  | [d1, d2, d3] => { results := [.lit (.bool true)], args := [d1, d2, d3] }
  | _ => none }
def fnColumnCutAtAnyRowRow : OpenClaim := { program := "qxb6628493a", sum := "58df4f993f83abb8db77a0554a782b156d8deb9d84ad276486cc2a29c9ea185e", func := "example.com/echoready/echoready/zzlaws_internal_field_b1.FnColumnCutAtAnyRow", spec := "fnColumnCutAtAnyRow", apart := false }
def FnColumnCutAtAnyRowSaid : Prop := fnColumnCutAtAnyRowRow.holds Try.pinned (OpenSpec.ofChange fnColumnCutAtAnyRowSpec)

/-- ITS FALSE NEIGHBOUR: 'it returns false'. Refute it at one input. -/
def fnColumnCutAtAnyRowWrong : ChangeSpec := { name := "fnColumnCutAtAnyRow", fn := fun _ => fun
  | [d1, d2, d3] => { results := [.lit (.bool false)], args := [d1, d2, d3] }
  | _ => none }
def FnColumnCutAtAnyRowWrongFalsely : Prop := fnColumnCutAtAnyRowRow.holds Try.pinned (OpenSpec.ofChange fnColumnCutAtAnyRowWrong)

/-- 'zzlaws_internal_field_b1.FnColumnPaddedRowsAndValue': WHATEVER THE INPUT: true; the input reads as it did. -/
def fnColumnPaddedRowsAndValueSpec : ChangeSpec := { name := "fnColumnPaddedRowsAndValue", fn := fun _ => fun
  | [d1, d2, d3, d4] => { results := [.lit (.bool true)], args := [d1, d2, d3, d4] }
  | _ => none }
def fnColumnPaddedRowsAndValueRow : OpenClaim := { program := "qxb6628493a", sum := "58df4f993f83abb8db77a0554a782b156d8deb9d84ad276486cc2a29c9ea185e", func := "example.com/echoready/echoready/zzlaws_internal_field_b1.FnColumnPaddedRowsAndValue", spec := "fnColumnPaddedRowsAndValue", apart := false }
def FnColumnPaddedRowsAndValueSaid : Prop := fnColumnPaddedRowsAndValueRow.holds Try.pinned (OpenSpec.ofChange fnColumnPaddedRowsAndValueSpec)

/-- ITS FALSE NEIGHBOUR: 'it returns false'. Refute it at one input. -/
def fnColumnPaddedRowsAndValueWrong : ChangeSpec := { name := "fnColumnPaddedRowsAndValue", fn := fun _ => fun
  | [d1, d2, d3, d4] => { results := [.lit (.bool false)], args := [d1, d2, d3, d4] }
  | _ => none }
def FnColumnPaddedRowsAndValueWrongFalsely : Prop := fnColumnPaddedRowsAndValueRow.holds Try.pinned (OpenSpec.ofChange fnColumnPaddedRowsAndValueWrong)

end Rows
end Go.Proofs.Qxb6628493a
