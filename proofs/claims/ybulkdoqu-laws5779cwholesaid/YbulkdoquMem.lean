import Derived.Test.YbulkdoquFile
import Derived.Test.YbulkdoquHood
import Derived.LaidEql
namespace Go.Proofs.Ybulkdoqu
open Go.RowKit
set_option linter.unusedSimpArgs false

/-- what 'prev' and 'keys' hold of the places that are written -/
def pvOf (κ : Nat → Nat) (n q : Nat) : Nat := if q < n then lastOf κ (κ q) q else 0
def kyOf (κ : Nat → Nat) (n q : Nat) : Nat := if q < n then dc κ (q + 1) else 0

/-- Block b is a plain block of cells, none frozen. -/
def Plain (w : World) (b : Nat) : Prop := ∃ cs t, w.heap[b]? = some (.cells cs t (0, 0))

theorem equalIn_ptr (d : Nat) (a b : Nat) (w : World) (ha : Plain w a) (hb : Plain w b) (t e : TypeId) (j : TypeInfo) (hp : Yba.prog.underlying t = some (.pointer e)) (hte : Yba.prog.info? e = some j) (hsz : j.size ≠ 0) :
    (Op.equalIn (d + 1) t (.pointer (some ⟨a, 0, none⟩)) (.pointer (some ⟨b, 0, none⟩))).run Yba.prog w = .ok (a == b) w := by
  obtain ⟨ca, ta, ha⟩ := ha
  obtain ⟨cb, tb, hb⟩ := hb
  by_cases h : a = b
  · subst h
    simp [Op.equalIn, run_underlying hp, typeInfo, sizeOf, hte, run_sameAddr_same]
  · have := run_sameAddr_other (P := Yba.prog) w (a := ⟨a, 0, none⟩) (b := ⟨b, 0, none⟩) (by simp) ha hb
    rw [show (a == b) = false from beq_eq_false_iff_ne.2 h]
    simp [Op.equalIn, run_underlying hp, typeInfo, sizeOf, hte, hsz, this]

theorem eql_ptr (a b : Nat) (w : World) (ha : Plain w a) (hb : Plain w b) : (binOp .eql 26 (.pointer (some ⟨a, 0, none⟩)) (.pointer (some ⟨b, 0, none⟩))).run Yba.prog w = .ok (.bool (a == b)) w := by
  obtain ⟨j, hj, hsz⟩ : ∃ j, Yba.prog.info? 52 = some j ∧ j.size = 3 := by
    have : (Yba.prog.info? 52).map (·.size) = some 3 := by kernel_rfl
    cases h : Yba.prog.info? 52 with
    | none => rw [h] at this; cases this
    | some j => rw [h] at this; exact ⟨j, rfl, by simpa using this⟩
  simp only [binOp]
  simp [Op.equal, Op.maxDepth, equalIn_ptr 9999 a b w ha hb 26 52 j Yba.underlying26 hj (by omega)]

theorem neq_ptr (a b : Nat) (w : World) (ha : Plain w a) (hb : Plain w b) : (binOp .neq 26 (.pointer (some ⟨a, 0, none⟩)) (.pointer (some ⟨b, 0, none⟩))).run Yba.prog w = .ok (.bool (!(a == b))) w := by
  obtain ⟨j, hj, hsz⟩ : ∃ j, Yba.prog.info? 52 = some j ∧ j.size = 3 := by
    have : (Yba.prog.info? 52).map (·.size) = some 3 := by kernel_rfl
    cases h : Yba.prog.info? 52 with
    | none => rw [h] at this; cases this
    | some j => rw [h] at this; exact ⟨j, rfl, by simpa using this⟩
  simp only [binOp]
  simp [Op.equal, Op.maxDepth, equalIn_ptr 9999 a b w ha hb 26 52 j Yba.underlying26 hj (by omega)]

theorem Mem.below {S B N sh n rch : Nat} {kb : Nat → Nat} {vl : Nat → Value} {pv ky sl : Nat → Nat} {w w' : World} (h : Mem S B N sh n rch kb vl pv ky sl w) (hn : 0 < N) (hb : Below w.heap.size w w') : Mem S B N sh n rch kb vl pv ky sl w' := by
  have lS : S < w.heap.size := World.block_lt_of_cell? w _ h.c0
  have lB : B < w.heap.size := World.block_lt_of_cell? w _ (h.key 0 hn)
  have eS : ∀ o, w'.cell? ⟨S, o, none⟩ = w.cell? ⟨S, o, none⟩ := fun o => hb.cell (p := ⟨S, o, none⟩) lS
  have eB : ∀ o, w'.cell? ⟨B, o, none⟩ = w.cell? ⟨B, o, none⟩ := fun o => hb.cell (p := ⟨B, o, none⟩) lB
  exact ⟨h.ne, (eS _).trans h.c0, (eS _).trans h.c1, (eS _).trans h.c2, (eS _).trans h.c3, (hb.frozen (p := ⟨S, 3, none⟩) lS).trans h.f3, fun q hq => (eB _).trans (h.key q hq), fun q hq => (eB _).trans (h.val q hq), fun q hq => (eB _).trans (h.prev q hq), fun q hq => (eB _).trans (h.keys q hq), fun j hj => (eB _).trans (h.slot j hj), fun o => (hb.frozen (p := ⟨B, o, none⟩) lB).trans (h.fr o)⟩

theorem Mem.setKeys {S B N sh n rch : Nat} {kb : Nat → Nat} {vl : Nat → Value} {pv ky sl : Nat → Nat} {w : World} (h : Mem S B N sh n rch kb vl pv ky sl w) (p v : Nat) (hp : p < N) :
    Mem S B N sh n rch kb vl pv (fun q => if q = p then v else ky q) sl (w.setCell ⟨B, p * 6 + 3, none⟩ (.int .u32 v)) := by
  have hS : ∀ o, (w.setCell ⟨B, p * 6 + 3, none⟩ (.int .u32 v)).cell? ⟨S, o, none⟩ = w.cell? ⟨S, o, none⟩ := fun o => World.cell?_of_block (w := w) (Below.heap_setCell _ _ _ _ (by simpa using h.ne))
  have hP : ∀ o, o ≠ p * 6 + 3 → (w.setCell ⟨B, p * 6 + 3, none⟩ (.int .u32 v)).cell? ⟨B, o, none⟩ = w.cell? ⟨B, o, none⟩ := fun o ho =>
    World.cell?_setCell_other _ _ _ _ (by intro e; injection e with _ e2; exact ho e2.symm)
  refine ⟨h.ne, (hS _).trans h.c0, (hS _).trans h.c1, (hS _).trans h.c2, (hS _).trans h.c3, by simpa using h.f3, fun q hq => (hP _ (by omega)).trans (h.key q hq), fun q hq => (hP _ (by omega)).trans (h.val q hq), fun q hq => (hP _ (by omega)).trans (h.prev q hq), fun q hq => ?_, fun x hx => (hP _ (sOff_place (by omega))).trans (h.slot x hx), fun o => by simpa using h.fr o⟩
  by_cases e : q = p
  · subst e; rw [if_pos rfl]; exact World.cell?_setCell_same _ _ _ (h.keys q hq)
  · rw [if_neg e]; exact (hP _ (by omega)).trans (h.keys q hq)

theorem Mem.setPrev {S B N sh n rch : Nat} {kb : Nat → Nat} {vl : Nat → Value} {pv ky sl : Nat → Nat} {w : World} (h : Mem S B N sh n rch kb vl pv ky sl w) (p v : Nat) (hp : p < N) :
    Mem S B N sh n rch kb vl (fun q => if q = p then v else pv q) ky sl (w.setCell ⟨B, p * 6 + 2, none⟩ (.int .u32 v)) := by
  have hS : ∀ o, (w.setCell ⟨B, p * 6 + 2, none⟩ (.int .u32 v)).cell? ⟨S, o, none⟩ = w.cell? ⟨S, o, none⟩ := fun o => World.cell?_of_block (w := w) (Below.heap_setCell _ _ _ _ (by simpa using h.ne))
  have hP : ∀ o, o ≠ p * 6 + 2 → (w.setCell ⟨B, p * 6 + 2, none⟩ (.int .u32 v)).cell? ⟨B, o, none⟩ = w.cell? ⟨B, o, none⟩ := fun o ho =>
    World.cell?_setCell_other _ _ _ _ (by intro e; injection e with _ e2; exact ho e2.symm)
  refine ⟨h.ne, (hS _).trans h.c0, (hS _).trans h.c1, (hS _).trans h.c2, (hS _).trans h.c3, by simpa using h.f3, fun q hq => (hP _ (by omega)).trans (h.key q hq), fun q hq => (hP _ (by omega)).trans (h.val q hq), fun q hq => ?_, fun q hq => (hP _ (by omega)).trans (h.keys q hq), fun x hx => (hP _ (sOff_place (by omega))).trans (h.slot x hx), fun o => by simpa using h.fr o⟩
  by_cases e : q = p
  · subst e; rw [if_pos rfl]; exact World.cell?_setCell_same _ _ _ (h.prev q hq)
  · rw [if_neg e]; exact (hP _ (by omega)).trans (h.prev q hq)

/-- the next place is written -/
theorem Mem.put {S B N sh n rch : Nat} {kb : Nat → Nat} {vl : Nat → Value} {pv ky sl : Nat → Nat} {w : World} (h : Mem S B N sh n rch kb vl pv ky sl w) (hn : n < N) :
    Mem S B N sh (n + 1) rch kb vl pv ky sl ((w.setCell ⟨B, n * 6, none⟩ (.pointer (some ⟨kb n, 0, none⟩))).setCell ⟨B, n * 6 + 1, none⟩ (vl n)) := by
  obtain ⟨w1, hw1⟩ : ∃ w1, w1 = w.setCell ⟨B, n * 6, none⟩ (.pointer (some ⟨kb n, 0, none⟩)) := ⟨_, rfl⟩
  obtain ⟨w2, hw2⟩ : ∃ w2, w2 = w1.setCell ⟨B, n * 6 + 1, none⟩ (vl n) := ⟨_, rfl⟩
  have hS : ∀ o, w2.cell? ⟨S, o, none⟩ = w.cell? ⟨S, o, none⟩ := fun o => by
    rw [hw2, hw1]
    exact (World.cell?_of_block (Below.heap_setCell _ _ _ _ (by simpa using h.ne))).trans (World.cell?_of_block (w := w) (Below.heap_setCell _ _ _ _ (by simpa using h.ne)))
  have hP : ∀ o, o ≠ n * 6 → o ≠ n * 6 + 1 → w2.cell? ⟨B, o, none⟩ = w.cell? ⟨B, o, none⟩ := fun o h1 h2 => by
    rw [hw2, hw1, World.cell?_setCell_other _ _ _ _ (by intro e; injection e with _ e2; exact h2 e2.symm), World.cell?_setCell_other _ _ _ _ (by intro e; injection e with _ e2; exact h1 e2.symm)]
  rw [← hw1, ← hw2]
  refine ⟨h.ne, (hS _).trans h.c0, (hS _).trans h.c1, (hS _).trans h.c2, (hS _).trans h.c3, by rw [hw2, hw1]; simpa using h.f3, fun q hq => ?_, fun q hq => ?_, fun q hq => (hP _ (by omega) (by omega)).trans (h.prev q hq), fun q hq => (hP _ (by omega) (by omega)).trans (h.keys q hq), fun x hx => (hP _ (sOff_place (r := 0) (by omega)) (sOff_place (by omega))).trans (h.slot x hx), fun o => by rw [hw2, hw1]; simpa using h.fr o⟩
  · by_cases e : q = n
    · subst e
      rw [if_pos (by omega), hw2, World.cell?_setCell_other _ _ _ _ (by intro e; injection e with _ e2; omega), hw1]
      exact World.cell?_setCell_same _ _ _ (h.key q hq)
    · rw [hP _ (by omega) (by omega), h.key q hq]
      by_cases hlt : q < n
      · rw [if_pos hlt, if_pos (by omega)]
      · rw [if_neg hlt, if_neg (by omega)]
  · by_cases e : q = n
    · subst e
      rw [if_pos (by omega), hw2]
      have hc : w1.cell? ⟨B, q * 6 + 1, none⟩ = some (if q < q then vl q else .nilIface) := by
        rw [hw1, World.cell?_setCell_other _ _ _ _ (by intro e; injection e with _ e2; omega)]
        exact h.val q hq
      exact World.cell?_setCell_same _ _ _ hc
    · rw [hP _ (by omega) (by omega), h.val q hq]
      by_cases hlt : q < n
      · rw [if_pos hlt, if_pos (by omega)]
      · rw [if_neg hlt, if_neg (by omega)]

end Go.Proofs.Ybulkdoqu
