/-
  No cell of these rows narrows 'for every input' (looked for: loops, veiled, ifaces, maps, wideKeys, modest, calm, conditions, laid).
  DERIVED. THE GIVEN ROWS OF THIS SEAT. 1 by the template 'for every input the law returns true; each argument reads behind the call as it read before'; 0 by the template 'total and deterministic' (their statements: Qxb6623339aTotals.lean).
  GIVEN WITH THE SEED: the statements are not yours to turn. If you find one false, say at which input.
  Laid BY PROGRAM, IN A SANDBOX (cutbox-rows.mjs): the forced cells as the released guide's own fill.sh prints them over the translation 7b3585f34a334909… (all of the seat's roots in one cut). By AI agents, Wed Nov 11 2026. No macro, syntax, notation, axiom, sorry.
-/
import Derived.Test.Qxb6623339aChecked
import GoSem.Claim
import GoSem.ClaimJoined
import GoSem.ClaimMapViews
import Derived.JoinedTies
import Derived.KernelRfl
namespace Go.Proofs.Qxb6623339a
/- THE CELL 'sum', in the pinned program and in every row, IS THE sha256 OF THE DUMP (.gsa) THAT Qxb6623339aProg.lean LOADS. Nothing in Lean hashes anything: it is a label: what it is worth is what the hold of that sum in a sandbox is worth. -/
noncomputable def Try.pinned : Pinned := { name := "qxb6623339a", sum := "7b3585f34a3349097d7cd78617afde47705b40121c9b477b13b4a70f1dfb1305", checked := Try.checked }
namespace Rows
def none {H : Type} : Left H := { results := [], args := [] }

/-- 'zzlaws_protocol_b1.FnPeekOpOrdersTheThreeListsAndFallsBackToReady': WHATEVER THE INPUT: true; the input reads as it did. -/
def fnPeekOpOrdersTheThreeListsAndFallsBackToReadySpec : ChangeSpec := { name := "fnPeekOpOrdersTheThreeListsAndFallsBackToReady", fn := fun _ => fun
  | [d1, d2] => { results := [.lit (.bool true)], args := [d1, d2] }
  | _ => none }
def fnPeekOpOrdersTheThreeListsAndFallsBackToReadyRow : OpenClaim := { program := "qxb6623339a", sum := "7b3585f34a3349097d7cd78617afde47705b40121c9b477b13b4a70f1dfb1305", func := "example.com/spoolhouse/spoolhouse/zzlaws_protocol_b1.FnPeekOpOrdersTheThreeListsAndFallsBackToReady", spec := "fnPeekOpOrdersTheThreeListsAndFallsBackToReady", apart := false }
def FnPeekOpOrdersTheThreeListsAndFallsBackToReadySaid : Prop := fnPeekOpOrdersTheThreeListsAndFallsBackToReadyRow.holds Try.pinned (OpenSpec.ofChange fnPeekOpOrdersTheThreeListsAndFallsBackToReadySpec)

/-- ITS FALSE NEIGHBOUR: 'it returns false'. Refute it at one input. -/
def fnPeekOpOrdersTheThreeListsAndFallsBackToReadyWrong : ChangeSpec := { name := "fnPeekOpOrdersTheThreeListsAndFallsBackToReady", fn := fun _ => fun
  | [d1, d2] => { results := [.lit (.bool false)], args := [d1, d2] }
  | _ => none }
def FnPeekOpOrdersTheThreeListsAndFallsBackToReadyWrongFalsely : Prop := fnPeekOpOrdersTheThreeListsAndFallsBackToReadyRow.holds Try.pinned (OpenSpec.ofChange fnPeekOpOrdersTheThreeListsAndFallsBackToReadyWrong)

end Rows
end Go.Proofs.Qxb6623339a
