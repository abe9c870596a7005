/-
  No cell of these rows narrows 'for every input' (looked for: loops, veiled, ifaces, maps, wideKeys, modest, calm, conditions, laid).
  DERIVED. THE GIVEN ROWS OF THIS SEAT. 1 by the template 'for every input the law returns true; each argument reads behind the call as it read before'; 0 by the template 'total and deterministic' (their statements: YbulkdoqgTotals.lean).
  GIVEN WITH THE SEED: the statements are not yours to turn. If you find one false, say at which input.
  Laid BY PROGRAM, IN A SANDBOX (cutbox-rows.mjs): the forced cells as the released guide's own fill.sh prints them over the translation 13c7fd975cfec828… (all of the seat's roots in one cut). By AI agents, Wed Nov 11 2026. No macro, syntax, notation, axiom, sorry.
-/
import Derived.Test.YbulkdoqgChecked
import GoSem.Claim
import GoSem.ClaimJoined
import GoSem.ClaimMapViews
import Derived.JoinedTies
import Derived.KernelRfl
namespace Go.Proofs.Ybulkdoqg
/- THE CELL 'sum', in the pinned program and in every row, IS THE sha256 OF THE DUMP (.gsa) THAT YbulkdoqgProg.lean LOADS. Nothing in Lean hashes anything: it is a label: what it is worth is what the hold of that sum in a sandbox is worth. -/
noncomputable def Yba.pinned : Pinned := { name := "ybulkdoqg", sum := "13c7fd975cfec828babcc9cc790b79f602a52c9b13f61e0f41cf06e588aa5227", checked := Yba.checked }
namespace Rows
def none {H : Type} : Left H := { results := [], args := [] }

/-- 'nocross.LawS5778BWhole': WHATEVER THE INPUT: true; the input reads as it did. -/
def lawS5778BWholeSpec : ChangeSpec := { name := "lawS5778BWhole", fn := fun _ => fun
  | [d1, d2, d3] => { results := [.lit (.bool true)], args := [d1, d2, d3] }
  | _ => none }
def lawS5778BWholeRow : OpenClaim := { program := "ybulkdoqg", sum := "13c7fd975cfec828babcc9cc790b79f602a52c9b13f61e0f41cf06e588aa5227", func := "example.com/nocross/nocross.LawS5778BWhole", spec := "lawS5778BWhole", unfollowed := true, recurses := true, apart := false }
def LawS5778BWholeSaid : Prop := lawS5778BWholeRow.holds Yba.pinned (OpenSpec.ofChange lawS5778BWholeSpec)

/-- ITS FALSE NEIGHBOUR: 'it returns false'. Refute it at one input. -/
def lawS5778BWholeWrong : ChangeSpec := { name := "lawS5778BWhole", fn := fun _ => fun
  | [d1, d2, d3] => { results := [.lit (.bool false)], args := [d1, d2, d3] }
  | _ => none }
def LawS5778BWholeWrongFalsely : Prop := lawS5778BWholeRow.holds Yba.pinned (OpenSpec.ofChange lawS5778BWholeWrong)

end Rows
end Go.Proofs.Ybulkdoqg
