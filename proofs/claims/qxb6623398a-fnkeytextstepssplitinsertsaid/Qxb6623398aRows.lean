/-
  No cell of these rows narrows 'for every input' (looked for: loops, veiled, ifaces, maps, wideKeys, modest, calm, conditions, laid).
  DERIVED. THE GIVEN ROWS OF THIS SEAT. 1 by the template 'for every input the law returns true; each argument reads behind the call as it read before'; 0 by the template 'total and deterministic' (their statements: Qxb6623398aTotals.lean).
  GIVEN WITH THE SEED: the statements are not yours to turn. If you find one false, say at which input.
  Laid BY PROGRAM, IN A SANDBOX (cutbox-rows.mjs): the forced cells as the released guide's own fill.sh prints them over the translation d201696d66e8c28a… (all of the seat's roots in one cut). By AI agents, Wed Nov 11 2026. No macro, syntax, notation, axiom, sorry.
-/
import Derived.Test.Qxb6623398aChecked
import GoSem.Claim
import GoSem.ClaimJoined
import GoSem.ClaimMapViews
import Derived.JoinedTies
import Derived.KernelRfl
namespace Go.Proofs.Qxb6623398a
/- THE CELL 'sum', in the pinned program and in every row, IS THE sha256 OF THE DUMP (.gsa) THAT Qxb6623398aProg.lean LOADS. Nothing in Lean hashes anything: it is a label: what it is worth is what the hold of that sum in a sandbox is worth. -/
noncomputable def Try.pinned : Pinned := { name := "qxb6623398a", sum := "d201696d66e8c28a746c7080d517651d56f46cf070ab0c03ff24e1119a5edca1", checked := Try.checked }
namespace Rows
def none {H : Type} : Left H := { results := [], args := [] }

/-- 'zzlaws_root_b1.FnKeyTextStepsSplitInsert': WHATEVER THE INPUT: true; the input reads as it did. -/
def fnKeyTextStepsSplitInsertSpec : ChangeSpec := { name := "fnKeyTextStepsSplitInsert", fn := fun _ => fun
  | [d1, d2, d3] => { results := [.lit (.bool true)], args := [d1, d2, d3] }
  | _ => none }
def fnKeyTextStepsSplitInsertRow : OpenClaim := { program := "qxb6623398a", sum := "d201696d66e8c28a746c7080d517651d56f46cf070ab0c03ff24e1119a5edca1", func := "example.com/notate/notate/zzlaws_root_b1.FnKeyTextStepsSplitInsert", spec := "fnKeyTextStepsSplitInsert", apart := false }
def FnKeyTextStepsSplitInsertSaid : Prop := fnKeyTextStepsSplitInsertRow.holds Try.pinned (OpenSpec.ofChange fnKeyTextStepsSplitInsertSpec)

/-- ITS FALSE NEIGHBOUR: 'it returns false'. Refute it at one input. -/
def fnKeyTextStepsSplitInsertWrong : ChangeSpec := { name := "fnKeyTextStepsSplitInsert", fn := fun _ => fun
  | [d1, d2, d3] => { results := [.lit (.bool false)], args := [d1, d2, d3] }
  | _ => none }
def FnKeyTextStepsSplitInsertWrongFalsely : Prop := fnKeyTextStepsSplitInsertRow.holds Try.pinned (OpenSpec.ofChange fnKeyTextStepsSplitInsertWrong)

end Rows
end Go.Proofs.Qxb6623398a
