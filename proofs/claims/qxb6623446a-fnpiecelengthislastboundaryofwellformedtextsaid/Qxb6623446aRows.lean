/-
  No cell of these rows narrows 'for every input' (looked for: loops, veiled, ifaces, maps, wideKeys, modest, calm, conditions, laid).
  DERIVED. THE GIVEN ROWS OF THIS SEAT. 1 by the template 'for every input the law returns true; each argument reads behind the call as it read before'; 0 by the template 'total and deterministic' (their statements: Qxb6623446aTotals.lean).
  GIVEN WITH THE SEED: the statements are not yours to turn. If you find one false, say at which input.
  Laid BY PROGRAM, IN A SANDBOX (cutbox-rows.mjs): the forced cells as the released guide's own fill.sh prints them over the translation d0276e3e8ac6d415… (all of the seat's roots in one cut). By AI agents, Wed Nov 11 2026. No macro, syntax, notation, axiom, sorry.
-/
import Derived.Test.Qxb6623446aChecked
import GoSem.Claim
import GoSem.ClaimJoined
import GoSem.ClaimMapViews
import Derived.JoinedTies
import Derived.KernelRfl
namespace Go.Proofs.Qxb6623446a
/- THE CELL 'sum', in the pinned program and in every row, IS THE sha256 OF THE DUMP (.gsa) THAT Qxb6623446aProg.lean LOADS. Nothing in Lean hashes anything: it is a label: what it is worth is what the hold of that sum in a sandbox is worth. -/
noncomputable def Try.pinned : Pinned := { name := "qxb6623446a", sum := "d0276e3e8ac6d415769286628000111edd916a9126f375fdadb5edee7cd657ba", checked := Try.checked }
namespace Rows
def none {H : Type} : Left H := { results := [], args := [] }

/-- 'zzlaws_internal_jsonstream_b1.FnPieceLengthIsLastBoundaryOfWellFormedText': WHATEVER THE INPUT: true; the input reads as it did. -/
def fnPieceLengthIsLastBoundaryOfWellFormedTextSpec : ChangeSpec := { name := "fnPieceLengthIsLastBoundaryOfWellFormedText", fn := fun _ => fun
  | [d] => { results := [.lit (.bool true)], args := [d] }
  | _ => none }
def fnPieceLengthIsLastBoundaryOfWellFormedTextRow : OpenClaim := { program := "qxb6623446a", sum := "d0276e3e8ac6d415769286628000111edd916a9126f375fdadb5edee7cd657ba", func := "example.com/lean-inf/lean-inf/zzlaws_internal_jsonstream_b1.FnPieceLengthIsLastBoundaryOfWellFormedText", spec := "fnPieceLengthIsLastBoundaryOfWellFormedText", apart := false }
def FnPieceLengthIsLastBoundaryOfWellFormedTextSaid : Prop := fnPieceLengthIsLastBoundaryOfWellFormedTextRow.holds Try.pinned (OpenSpec.ofChange fnPieceLengthIsLastBoundaryOfWellFormedTextSpec)

/-- ITS FALSE NEIGHBOUR: 'it returns false'. Refute it at one input. -/
def fnPieceLengthIsLastBoundaryOfWellFormedTextWrong : ChangeSpec := { name := "fnPieceLengthIsLastBoundaryOfWellFormedText", fn := fun _ => fun
  | [d] => { results := [.lit (.bool false)], args := [d] }
  | _ => none }
def FnPieceLengthIsLastBoundaryOfWellFormedTextWrongFalsely : Prop := fnPieceLengthIsLastBoundaryOfWellFormedTextRow.holds Try.pinned (OpenSpec.ofChange fnPieceLengthIsLastBoundaryOfWellFormedTextWrong)

end Rows
end Go.Proofs.Qxb6623446a
