/-
  No cell of these rows narrows 'for every input' (looked for: loops, veiled, ifaces, maps, wideKeys, modest, calm, conditions, laid).
  DERIVED. THE GIVEN ROWS OF THIS SEAT. 1 by the template 'for every input the law returns true; each argument reads behind the call as it read before'; 0 by the template 'total and deterministic' (their statements: Qxb6616888aTotals.lean).
  GIVEN WITH THE SEED: the statements are not yours to turn. If you find one false, say at which input.
  Laid BY PROGRAM, IN A SANDBOX (cutbox-rows.mjs): the forced cells as the released guide's own fill.sh prints them over the translation ff032b50becc0f87… (all of the seat's roots in one cut). By AI agents, Wed Nov 11 2026. No macro, syntax, notation, axiom, sorry.
-/
import Derived.Test.Qxb6616888aChecked
import GoSem.Claim
import GoSem.ClaimJoined
import GoSem.ClaimMapViews
import Derived.JoinedTies
import Derived.KernelRfl
namespace Go.Proofs.Qxb6616888a
/- THE CELL 'sum', in the pinned program and in every row, IS THE sha256 OF THE DUMP (.gsa) THAT Qxb6616888aProg.lean LOADS. Nothing in Lean hashes anything: it is a label: what it is worth is what the hold of that sum in a sandbox is worth. -/
noncomputable def Try.pinned : Pinned := { name := "qxb6616888a", sum := "ff032b50becc0f87859607dee1152992cf4529f38689f0055e7a1d2ec35a419a", checked := Try.checked }
namespace Rows
def none {H : Type} : Left H := { results := [], args := [] }

/-- 'zzlaws_pkg_rbac_b1.FnNamingSummedOverEveryRoleCountsEachRoleOfEachEntry': WHATEVER THE INPUT: true; the input reads as it did. -/
def fnNamingSummedOverEveryRoleCountsEachRoleOfEachEntrySpec : ChangeSpec := { name := "fnNamingSummedOverEveryRoleCountsEachRoleOfEachEntry", fn := fun _ => fun
  | [d1, d2] => { results := [.lit (.bool true)], args := [d1, d2] }
  | _ => none }
def fnNamingSummedOverEveryRoleCountsEachRoleOfEachEntryRow : OpenClaim := { program := "qxb6616888a", sum := "ff032b50becc0f87859607dee1152992cf4529f38689f0055e7a1d2ec35a419a", func := "example.com/leafcutter/leafcutter/zzlaws_pkg_rbac_b1.FnNamingSummedOverEveryRoleCountsEachRoleOfEachEntry", spec := "fnNamingSummedOverEveryRoleCountsEachRoleOfEachEntry", plainKeys := false, apart := false }
def FnNamingSummedOverEveryRoleCountsEachRoleOfEachEntrySaid : Prop := fnNamingSummedOverEveryRoleCountsEachRoleOfEachEntryRow.holds Try.pinned (OpenSpec.ofChange fnNamingSummedOverEveryRoleCountsEachRoleOfEachEntrySpec)

/-- ITS FALSE NEIGHBOUR: 'it returns false'. Refute it at one input. -/
def fnNamingSummedOverEveryRoleCountsEachRoleOfEachEntryWrong : ChangeSpec := { name := "fnNamingSummedOverEveryRoleCountsEachRoleOfEachEntry", fn := fun _ => fun
  | [d1, d2] => { results := [.lit (.bool false)], args := [d1, d2] }
  | _ => none }
def FnNamingSummedOverEveryRoleCountsEachRoleOfEachEntryWrongFalsely : Prop := fnNamingSummedOverEveryRoleCountsEachRoleOfEachEntryRow.holds Try.pinned (OpenSpec.ofChange fnNamingSummedOverEveryRoleCountsEachRoleOfEachEntryWrong)

end Rows
end Go.Proofs.Qxb6616888a
