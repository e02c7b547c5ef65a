/-
  No cell of these rows narrows 'for every input' (looked for: loops, veiled, ifaces, maps, wideKeys, modest, calm, conditions, laid).
  DERIVED. THE GIVEN ROWS OF THIS SEAT. 1 by the template 'for every input the law returns true; each argument reads behind the call as it read before'; 0 by the template 'total and deterministic' (their statements: Qxb6617743aTotals.lean).
  GIVEN WITH THE SEED: the statements are not yours to turn. If you find one false, say at which input.
  Laid BY PROGRAM, IN A SANDBOX (cutbox-rows.mjs): the forced cells as the released guide's own fill.sh prints them over the translation f56dede45c176815… (all of the seat's roots in one cut). By AI agents, Wed Nov 11 2026. No macro, syntax, notation, axiom, sorry.
-/
import Derived.Test.Qxb6617743aChecked
import GoSem.Claim
import GoSem.ClaimJoined
import GoSem.ClaimMapViews
import Derived.JoinedTies
import Derived.KernelRfl
namespace Go.Proofs.Qxb6617743a
/- THE CELL 'sum', in the pinned program and in every row, IS THE sha256 OF THE DUMP (.gsa) THAT Qxb6617743aProg.lean LOADS. Nothing in Lean hashes anything: it is a label: what it is worth is what the hold of that sum in a sandbox is worth. -/
noncomputable def Try.pinned : Pinned := { name := "qxb6617743a", sum := "f56dede45c17681559ef259bae600348a5338869099ded9fdf13e04352f68e2c", checked := Try.checked }
namespace Rows
def none {H : Type} : Left H := { results := [], args := [] }

/-- 'zzlaws_pkg_history_b1.FnSkipSpaceFindsFirstNonSpace': WHATEVER THE INPUT: true; the input reads as it did. -/
def fnSkipSpaceFindsFirstNonSpaceSpec : ChangeSpec := { name := "fnSkipSpaceFindsFirstNonSpace", fn := fun _ => fun
  | [d1, d2, d3] => { results := [.lit (.bool true)], args := [d1, d2, d3] }
  | _ => none }
def fnSkipSpaceFindsFirstNonSpaceRow : OpenClaim := { program := "qxb6617743a", sum := "f56dede45c17681559ef259bae600348a5338869099ded9fdf13e04352f68e2c", func := "example.com/keyquorum/keyquorum/zzlaws_pkg_history_b1.FnSkipSpaceFindsFirstNonSpace", spec := "fnSkipSpaceFindsFirstNonSpace", apart := false }
def FnSkipSpaceFindsFirstNonSpaceSaid : Prop := fnSkipSpaceFindsFirstNonSpaceRow.holds Try.pinned (OpenSpec.ofChange fnSkipSpaceFindsFirstNonSpaceSpec)

/-- ITS FALSE NEIGHBOUR: 'it returns false'. Refute it at one input. -/
def fnSkipSpaceFindsFirstNonSpaceWrong : ChangeSpec := { name := "fnSkipSpaceFindsFirstNonSpace", fn := fun _ => fun
  | [d1, d2, d3] => { results := [.lit (.bool false)], args := [d1, d2, d3] }
  | _ => none }
def FnSkipSpaceFindsFirstNonSpaceWrongFalsely : Prop := fnSkipSpaceFindsFirstNonSpaceRow.holds Try.pinned (OpenSpec.ofChange fnSkipSpaceFindsFirstNonSpaceWrong)

end Rows
end Go.Proofs.Qxb6617743a
