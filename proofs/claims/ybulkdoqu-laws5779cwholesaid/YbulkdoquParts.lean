import Derived.Test.YbulkdoquEnv
import Derived.Test.YbulkdoquEnd
namespace Go.Proofs.Ybulkdoqu
open Go.RowKit Go.ChangeShapes

/-- what is left of a row of statements behind the first n -/
def dropSeq : Nat → Code → Code
  | n + 1, .seq _ b => dropSeq n b
  | _, c => c

/-- the inside of block n -/
def findBlock (n : Nat) : Code → Option Code
  | .block m c => if m == n then some c else findBlock n c
  | .seq a b => match findBlock n a with
    | some c => some c
    | none => findBlock n b
  | .cond _ a b => match findBlock n a with
    | some c => some c
    | none => findBlock n b
  | .loop c => findBlock n c
  | _ => none

abbrev ptr (b : Nat) : Value := .pointer (some ⟨b, 0, none⟩)

theorem Below.drewN {B : Nat} {a w : World} (h : Below B a w) (n : Nat) : Below B a (w.drewN n) := ⟨h.os, h.tape, h.output, h.size, h.block⟩

theorem fullN_le (sl : Nat → Nat) : ∀ m, fullN sl m ≤ m
  | 0 => Nat.le_refl _
  | m + 1 => by have := fullN_le sl m; unfold fullN; split <;> omega

theorem and_one_i64 (i : Nat) (h : i < 9223372036854775808) : bits .and .i64 (i : Int) 1 = ((i % 2 : Nat) : Int) := by
  have := bits_mask .i64 63 (by decide) (fun n h0 h1 => by rw [IntKind.wrap_i64]; omega) 1 (by decide) (i : Int) (by omega) (by omega)
  simpa using this

end Go.Proofs.Ybulkdoqu
