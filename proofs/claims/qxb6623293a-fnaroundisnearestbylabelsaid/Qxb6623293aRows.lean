/-
  No cell of these rows narrows 'for every input' (looked for: loops, veiled, ifaces, maps, wideKeys, modest, calm, conditions, laid).
  DERIVED. THE GIVEN ROWS OF THIS SEAT. 1 by the template 'for every input the law returns true; each argument reads behind the call as it read before'; 0 by the template 'total and deterministic' (their statements: Qxb6623293aTotals.lean).
  GIVEN WITH THE SEED: the statements are not yours to turn. If you find one false, say at which input.
  Laid BY PROGRAM, IN A SANDBOX (cutbox-rows.mjs): the forced cells as the released guide's own fill.sh prints them over the translation c7fb72206c598167… (all of the seat's roots in one cut). By AI agents, Wed Nov 11 2026. No macro, syntax, notation, axiom, sorry.
-/
import Derived.Test.Qxb6623293aChecked
import GoSem.Claim
import GoSem.ClaimJoined
import GoSem.ClaimMapViews
import Derived.JoinedTies
import Derived.KernelRfl
namespace Go.Proofs.Qxb6623293a
/- THE CELL 'sum', in the pinned program and in every row, IS THE sha256 OF THE DUMP (.gsa) THAT Qxb6623293aProg.lean LOADS. Nothing in Lean hashes anything: it is a label: what it is worth is what the hold of that sum in a sandbox is worth. -/
noncomputable def Try.pinned : Pinned := { name := "qxb6623293a", sum := "c7fb72206c598167a01ae850a4a1fe9f58d83cf1a9d59f61c2edf349ef6a910c", checked := Try.checked }
namespace Rows
def none {H : Type} : Left H := { results := [], args := [] }

/-- 'zzlaws_dot_b1.FnAroundIsNearestByLabel': WHATEVER THE INPUT: true; the input reads as it did. -/
def fnAroundIsNearestByLabelSpec : ChangeSpec := { name := "fnAroundIsNearestByLabel", fn := fun _ => fun
  | [d1, d2, d3, d4, d5, d6, d7] => { results := [.lit (.bool true)], args := [d1, d2, d3, d4, d5, d6, d7] }
  | _ => none }
def fnAroundIsNearestByLabelRow : OpenClaim := { program := "qxb6623293a", sum := "c7fb72206c598167a01ae850a4a1fe9f58d83cf1a9d59f61c2edf349ef6a910c", func := "example.com/edgewise/edgewise/zzlaws_dot_b1.FnAroundIsNearestByLabel", spec := "fnAroundIsNearestByLabel", unfollowed := true, recurses := true, apart := false }
def FnAroundIsNearestByLabelSaid : Prop := fnAroundIsNearestByLabelRow.holds Try.pinned (OpenSpec.ofChange fnAroundIsNearestByLabelSpec)

/-- ITS FALSE NEIGHBOUR: 'it returns false'. Refute it at one input. -/
def fnAroundIsNearestByLabelWrong : ChangeSpec := { name := "fnAroundIsNearestByLabel", fn := fun _ => fun
  | [d1, d2, d3, d4, d5, d6, d7] => { results := [.lit (.bool false)], args := [d1, d2, d3, d4, d5, d6, d7] }
  | _ => none }
def FnAroundIsNearestByLabelWrongFalsely : Prop := fnAroundIsNearestByLabelRow.holds Try.pinned (OpenSpec.ofChange fnAroundIsNearestByLabelWrong)

end Rows
end Go.Proofs.Qxb6623293a
