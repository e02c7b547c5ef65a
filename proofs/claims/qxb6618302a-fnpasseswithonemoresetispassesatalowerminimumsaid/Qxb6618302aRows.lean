/-
  No cell of these rows narrows 'for every input' (looked for: loops, veiled, ifaces, maps, wideKeys, modest, calm, conditions, laid).
  DERIVED. THE GIVEN ROWS OF THIS SEAT. 2 by the template 'for every input the law returns true; each argument reads behind the call as it read before'; 0 by the template 'total and deterministic' (their statements: Qxb6618302aTotals.lean).
  GIVEN WITH THE SEED: the statements are not yours to turn. If you find one false, say at which input.
  Laid BY PROGRAM, IN A SANDBOX (cutbox-rows.mjs): the forced cells as the released guide's own fill.sh prints them over the translation 8f00c02aa38d57cc… (all of the seat's roots in one cut). By AI agents, Wed Nov 11 2026. No macro, syntax, notation, axiom, sorry.
-/
import Derived.Test.Qxb6618302aChecked
import GoSem.Claim
import GoSem.ClaimJoined
import GoSem.ClaimMapViews
import Derived.JoinedTies
import Derived.KernelRfl
namespace Go.Proofs.Qxb6618302a
/- THE CELL 'sum', in the pinned program and in every row, IS THE sha256 OF THE DUMP (.gsa) THAT Qxb6618302aProg.lean LOADS. Nothing in Lean hashes anything: it is a label: what it is worth is what the hold of that sum in a sandbox is worth. -/
noncomputable def Try.pinned : Pinned := { name := "qxb6618302a", sum := "8f00c02aa38d57cc571da0c25715fc229c42e1e526f22268c6efc9357620a6b2", checked := Try.checked }
namespace Rows
def none {H : Type} : Left H := { results := [], args := [] }

/-- 'zzlaws_progression_b1.FnPassesIsTotalAtLeastMinAtAnyRotation': WHATEVER THE INPUT: true; the input reads as it did. -/
def fnPassesIsTotalAtLeastMinAtAnyRotationSpec : ChangeSpec := { name := "fnPassesIsTotalAtLeastMinAtAnyRotation", fn := fun _ => fun
  | [d1, d2, d3, d4] => { results := [.lit (.bool true)], args := [d1, d2, d3, d4] }
  | _ => none }
def fnPassesIsTotalAtLeastMinAtAnyRotationRow : OpenClaim := { program := "qxb6618302a", sum := "8f00c02aa38d57cc571da0c25715fc229c42e1e526f22268c6efc9357620a6b2", func := "example.com/wavelift/wavelift/zzlaws_progression_b1.FnPassesIsTotalAtLeastMinAtAnyRotation", spec := "fnPassesIsTotalAtLeastMinAtAnyRotation", apart := false }
def FnPassesIsTotalAtLeastMinAtAnyRotationSaid : Prop := fnPassesIsTotalAtLeastMinAtAnyRotationRow.holds Try.pinned (OpenSpec.ofChange fnPassesIsTotalAtLeastMinAtAnyRotationSpec)

/-- ITS FALSE NEIGHBOUR: 'it returns false'. Refute it at one input. -/
def fnPassesIsTotalAtLeastMinAtAnyRotationWrong : ChangeSpec := { name := "fnPassesIsTotalAtLeastMinAtAnyRotation", fn := fun _ => fun
  | [d1, d2, d3, d4] => { results := [.lit (.bool false)], args := [d1, d2, d3, d4] }
  | _ => none }
def FnPassesIsTotalAtLeastMinAtAnyRotationWrongFalsely : Prop := fnPassesIsTotalAtLeastMinAtAnyRotationRow.holds Try.pinned (OpenSpec.ofChange fnPassesIsTotalAtLeastMinAtAnyRotationWrong)

/-- 'zzlaws_progression_b1.FnPassesWithOneMoreSetIsPassesAtALowerMinimum': WHATEVER THE INPUT: true; the input reads as it did. -/
def fnPassesWithOneMoreSetIsPassesAtALowerMinimumSpec : ChangeSpec := { name := "fnPassesWithOneMoreSetIsPassesAtALowerMinimum", fn := fun _ => fun
  | [d1, d2, d3, d4, d5] => { results := [.lit (.bool true)], args := [d1, d2, d3, d4, d5] }
  | _ => none }
def fnPassesWithOneMoreSetIsPassesAtALowerMinimumRow : OpenClaim := { program := "qxb6618302a", sum := "8f00c02aa38d57cc571da0c25715fc229c42e1e526f22268c6efc9357620a6b2", func := "example.com/wavelift/wavelift/zzlaws_progression_b1.FnPassesWithOneMoreSetIsPassesAtALowerMinimum", spec := "fnPassesWithOneMoreSetIsPassesAtALowerMinimum", apart := false }
def FnPassesWithOneMoreSetIsPassesAtALowerMinimumSaid : Prop := fnPassesWithOneMoreSetIsPassesAtALowerMinimumRow.holds Try.pinned (OpenSpec.ofChange fnPassesWithOneMoreSetIsPassesAtALowerMinimumSpec)

/-- ITS FALSE NEIGHBOUR: 'it returns false'. Refute it at one input. -/
def fnPassesWithOneMoreSetIsPassesAtALowerMinimumWrong : ChangeSpec := { name := "fnPassesWithOneMoreSetIsPassesAtALowerMinimum", fn := fun _ => fun
  | [d1, d2, d3, d4, d5] => { results := [.lit (.bool false)], args := [d1, d2, d3, d4, d5] }
  | _ => none }
def FnPassesWithOneMoreSetIsPassesAtALowerMinimumWrongFalsely : Prop := fnPassesWithOneMoreSetIsPassesAtALowerMinimumRow.holds Try.pinned (OpenSpec.ofChange fnPassesWithOneMoreSetIsPassesAtALowerMinimumWrong)

end Rows
end Go.Proofs.Qxb6618302a
