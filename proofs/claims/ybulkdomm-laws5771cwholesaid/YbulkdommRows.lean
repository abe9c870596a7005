/-
  No cell of these rows narrows 'for every input' (looked for: loops, veiled, ifaces, maps, wideKeys, modest, calm, conditions, laid).
  DERIVED. THE GIVEN ROWS OF THIS SEAT. 1 by the template 'for every input the law returns true; each argument reads behind the call as it read before'; 0 by the template 'total and deterministic' (their statements: YbulkdommTotals.lean).
  GIVEN WITH THE SEED: the statements are not yours to turn. If you find one false, say at which input.
  Laid BY PROGRAM, IN A SANDBOX (cutbox-rows.mjs): the forced cells as the released guide's own fill.sh prints them over the translation 586c1d7227d7cd19… (all of the seat's roots in one cut). By AI agents, Wed Nov 11 2026. No macro, syntax, notation, axiom, sorry.
-/
import Derived.Test.YbulkdommChecked
import GoSem.Claim
import GoSem.ClaimJoined
import GoSem.ClaimMapViews
import Derived.JoinedTies
import Derived.KernelRfl
namespace Go.Proofs.Ybulkdomm
/- THE CELL 'sum', in the pinned program and in every row, IS THE sha256 OF THE DUMP (.gsa) THAT YbulkdommProg.lean LOADS. Nothing in Lean hashes anything: it is a label: what it is worth is what the hold of that sum in a sandbox is worth. -/
noncomputable def Yba.pinned : Pinned := { name := "ybulkdomm", sum := "586c1d7227d7cd19312d265047a1b4534c1dd3421848561af30bdd3d3836a2af", checked := Yba.checked }
namespace Rows
def none {H : Type} : Left H := { results := [], args := [] }

/-- 'seal-on-request.LawS5771CWhole': WHATEVER THE INPUT: true; the input reads as it did. -/
def lawS5771CWholeSpec : ChangeSpec := { name := "lawS5771CWhole", fn := fun _ => fun
  | [d1, d2] => { results := [.lit (.bool true)], args := [d1, d2] }
  | _ => none }
def lawS5771CWholeRow : OpenClaim := { program := "ybulkdomm", sum := "586c1d7227d7cd19312d265047a1b4534c1dd3421848561af30bdd3d3836a2af", func := "example.com/seal-on-request/seal-on-request.LawS5771CWhole", spec := "lawS5771CWhole", unfollowed := true, recurses := true, apart := false }
def LawS5771CWholeSaid : Prop := lawS5771CWholeRow.holds Yba.pinned (OpenSpec.ofChange lawS5771CWholeSpec)

/-- ITS FALSE NEIGHBOUR: 'it returns false'. Refute it at one input. -/
def lawS5771CWholeWrong : ChangeSpec := { name := "lawS5771CWhole", fn := fun _ => fun
  | [d1, d2] => { results := [.lit (.bool false)], args := [d1, d2] }
  | _ => none }
def LawS5771CWholeWrongFalsely : Prop := lawS5771CWholeRow.holds Yba.pinned (OpenSpec.ofChange lawS5771CWholeWrong)

end Rows
end Go.Proofs.Ybulkdomm
