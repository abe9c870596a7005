/-
  No cell of these rows narrows 'for every input' (looked for: loops, veiled, ifaces, maps, wideKeys, modest, calm, conditions, laid).
  DERIVED. THE GIVEN ROWS OF THIS SEAT. 2 by the template 'for every input the law returns true; each argument reads behind the call as it read before'; 0 by the template 'total and deterministic' (their statements: YbulkdoquTotals.lean).
  GIVEN WITH THE SEED: the statements are not yours to turn. If you find one false, say at which input.
  Laid BY PROGRAM, IN A SANDBOX (cutbox-rows.mjs): the forced cells as the released guide's own fill.sh prints them over the translation 6bbc6ed550690f00… (all of the seat's roots in one cut). By AI agents, Wed Nov 11 2026. No macro, syntax, notation, axiom, sorry.
-/
import Derived.Test.YbulkdoquChecked
import GoSem.Claim
import GoSem.ClaimJoined
import GoSem.ClaimMapViews
import Derived.JoinedTies
import Derived.KernelRfl
namespace Go.Proofs.Ybulkdoqu
/- THE CELL 'sum', in the pinned program and in every row, IS THE sha256 OF THE DUMP (.gsa) THAT YbulkdoquProg.lean LOADS. Nothing in Lean hashes anything: it is a label: what it is worth is what the hold of that sum in a sandbox is worth. -/
noncomputable def Yba.pinned : Pinned := { name := "ybulkdoqu", sum := "6bbc6ed550690f00126d9e70bc63356aa3695e49cf78af7e0b4fcc0403414bf5", checked := Yba.checked }
namespace Rows
def none {H : Type} : Left H := { results := [], args := [] }

/-- 'typed-haversack.LawS5779AWhole': WHATEVER THE INPUT: true; the input reads as it did. -/
def lawS5779AWholeSpec : ChangeSpec := { name := "lawS5779AWhole", fn := fun _ => fun
  | [d1, d2] => { results := [.lit (.bool true)], args := [d1, d2] }
  | _ => none }
def lawS5779AWholeRow : OpenClaim := { program := "ybulkdoqu", sum := "6bbc6ed550690f00126d9e70bc63356aa3695e49cf78af7e0b4fcc0403414bf5", func := "example.com/typed-haversack/typed-haversack.LawS5779AWhole", spec := "lawS5779AWhole", apart := false }
def LawS5779AWholeSaid : Prop := lawS5779AWholeRow.holds Yba.pinned (OpenSpec.ofChange lawS5779AWholeSpec)

/-- ITS FALSE NEIGHBOUR: 'it returns false'. Refute it at one input. -/
def lawS5779AWholeWrong : ChangeSpec := { name := "lawS5779AWhole", fn := fun _ => fun
  | [d1, d2] => { results := [.lit (.bool false)], args := [d1, d2] }
  | _ => none }
def LawS5779AWholeWrongFalsely : Prop := lawS5779AWholeRow.holds Yba.pinned (OpenSpec.ofChange lawS5779AWholeWrong)

/-- 'typed-haversack.LawS5779CWhole': WHATEVER THE INPUT: true; the input reads as it did. -/
def lawS5779CWholeSpec : ChangeSpec := { name := "lawS5779CWhole", fn := fun _ => fun
  | [d1, d2, d3, d4] => { results := [.lit (.bool true)], args := [d1, d2, d3, d4] }
  | _ => none }
def lawS5779CWholeRow : OpenClaim := { program := "ybulkdoqu", sum := "6bbc6ed550690f00126d9e70bc63356aa3695e49cf78af7e0b4fcc0403414bf5", func := "example.com/typed-haversack/typed-haversack.LawS5779CWhole", spec := "lawS5779CWhole", inPlace := ["sync/atomic.LoadUint32", "sync/atomic.StoreUint32"], apart := false }
def LawS5779CWholeSaid : Prop := lawS5779CWholeRow.holds Yba.pinned (OpenSpec.ofChange lawS5779CWholeSpec)

/-- ITS FALSE NEIGHBOUR: 'it returns false'. Refute it at one input. -/
def lawS5779CWholeWrong : ChangeSpec := { name := "lawS5779CWhole", fn := fun _ => fun
  | [d1, d2, d3, d4] => { results := [.lit (.bool false)], args := [d1, d2, d3, d4] }
  | _ => none }
def LawS5779CWholeWrongFalsely : Prop := lawS5779CWholeRow.holds Yba.pinned (OpenSpec.ofChange lawS5779CWholeWrong)

end Rows
end Go.Proofs.Ybulkdoqu
