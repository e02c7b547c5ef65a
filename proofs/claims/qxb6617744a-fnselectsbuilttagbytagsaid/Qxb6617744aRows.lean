/-
  NARROWER THAN 'FOR EVERY INPUT', by the rows' own cells (each row's printed sentence says how): FnSelectsBuiltTagByTag: maps · FnSelectsIsSubmapOrder: maps.
  DERIVED. THE GIVEN ROWS OF THIS SEAT. 2 by the template 'for every input the law returns true; each argument reads behind the call as it read before'; 0 by the template 'total and deterministic' (their statements: Qxb6617744aTotals.lean).
  GIVEN WITH THE SEED: the statements are not yours to turn. If you find one false, say at which input.
  Laid BY PROGRAM, IN A SANDBOX (cutbox-rows.mjs): the forced cells as the released guide's own fill.sh prints them over the translation 9def0530991abb43… (all of the seat's roots in one cut). By AI agents, Wed Nov 11 2026. No macro, syntax, notation, axiom, sorry.
-/
import Derived.Test.Qxb6617744aChecked
import GoSem.Claim
import GoSem.ClaimJoined
import GoSem.ClaimMapViews
import Derived.JoinedTies
import Derived.KernelRfl
namespace Go.Proofs.Qxb6617744a
/- THE CELL 'sum', in the pinned program and in every row, IS THE sha256 OF THE DUMP (.gsa) THAT Qxb6617744aProg.lean LOADS. Nothing in Lean hashes anything: it is a label: what it is worth is what the hold of that sum in a sandbox is worth. -/
noncomputable def Try.pinned : Pinned := { name := "qxb6617744a", sum := "9def0530991abb43077cd455b9a8d22e2bd593f29f66bbde3936df8f1aab4bd8", checked := Try.checked }
namespace Rows
def none {H : Type} : Left H := { results := [], args := [] }

/-- 'zzlaws_root_b1.FnSelectsBuiltTagByTag': WHATEVER THE INPUT: true; the input reads as it did. -/
def fnSelectsBuiltTagByTagSpec : ChangeSpec := { name := "fnSelectsBuiltTagByTag", fn := fun _ => fun
  | [d1, d2, d3, d4, d5, d6, d7, d8, d9, d10] => { results := [.lit (.bool true)], args := [d1, d2, d3, d4, d5, d6, d7, d8, d9, d10] }
  | _ => none }
def fnSelectsBuiltTagByTagRow : OpenClaim := { program := "qxb6617744a", sum := "9def0530991abb43077cd455b9a8d22e2bd593f29f66bbde3936df8f1aab4bd8", func := "example.com/targetloom/targetloom/zzlaws_root_b1.FnSelectsBuiltTagByTag", spec := "fnSelectsBuiltTagByTag", maps := true, apart := false }
def FnSelectsBuiltTagByTagSaid : Prop := fnSelectsBuiltTagByTagRow.holds Try.pinned (OpenSpec.ofChange fnSelectsBuiltTagByTagSpec)

/-- ITS FALSE NEIGHBOUR: 'it returns false'. Refute it at one input. -/
def fnSelectsBuiltTagByTagWrong : ChangeSpec := { name := "fnSelectsBuiltTagByTag", fn := fun _ => fun
  | [d1, d2, d3, d4, d5, d6, d7, d8, d9, d10] => { results := [.lit (.bool false)], args := [d1, d2, d3, d4, d5, d6, d7, d8, d9, d10] }
  | _ => none }
def FnSelectsBuiltTagByTagWrongFalsely : Prop := fnSelectsBuiltTagByTagRow.holds Try.pinned (OpenSpec.ofChange fnSelectsBuiltTagByTagWrong)

/-- 'zzlaws_root_b1.FnSelectsIsSubmapOrder': WHATEVER THE INPUT: true; the input reads as it did. -/
def fnSelectsIsSubmapOrderSpec : ChangeSpec := { name := "fnSelectsIsSubmapOrder", fn := fun _ => fun
  | [d1, d2, d3, d4, d5, d6, d7] => { results := [.lit (.bool true)], args := [d1, d2, d3, d4, d5, d6, d7] }
  | _ => none }
def fnSelectsIsSubmapOrderRow : OpenClaim := { program := "qxb6617744a", sum := "9def0530991abb43077cd455b9a8d22e2bd593f29f66bbde3936df8f1aab4bd8", func := "example.com/targetloom/targetloom/zzlaws_root_b1.FnSelectsIsSubmapOrder", spec := "fnSelectsIsSubmapOrder", maps := true, apart := false }
def FnSelectsIsSubmapOrderSaid : Prop := fnSelectsIsSubmapOrderRow.holds Try.pinned (OpenSpec.ofChange fnSelectsIsSubmapOrderSpec)

/-- ITS FALSE NEIGHBOUR: 'it returns false'. Refute it at one input. -/
def fnSelectsIsSubmapOrderWrong : ChangeSpec := { name := "fnSelectsIsSubmapOrder", fn := fun _ => fun
  | [d1, d2, d3, d4, d5, d6, d7] => { results := [.lit (.bool false)], args := [d1, d2, d3, d4, d5, d6, d7] }
  | _ => none }
def FnSelectsIsSubmapOrderWrongFalsely : Prop := fnSelectsIsSubmapOrderRow.holds Try.pinned (OpenSpec.ofChange fnSelectsIsSubmapOrderWrong)

end Rows
end Go.Proofs.Qxb6617744a
