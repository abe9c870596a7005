/-
  Rows of memory by a function, and what 'make' lays: for the law's own walk.
-/
import Derived.Test.YbulkdoquAdd
import Derived.Test.YbulkdoquLen
namespace Go.Proofs.Ybulkdoqu
open Go.RowKit

theorem Yba.info26 : (Yba.prog.info? 26).map (fun i => (i.zero, i.size, i.bytes)) = some (some (.pointer none), 1, 8) := by kernel_rfl
theorem Yba.info3 : (Yba.prog.info? 3).map (fun i => (i.zero, i.size, i.bytes)) = some (some (.int .i64 0), 1, 8) := by kernel_rfl
theorem Yba.info23 : (Yba.prog.info? 23).map (fun i => (i.zero, i.size, i.bytes)) = some (some (.int .u32 0), 1, 4) := by kernel_rfl
theorem Yba.info28 : (Yba.prog.info? 28).map (fun i => (i.zero, i.size, i.bytes)) = some (some (.agg #[.pointer none, .nilIface]), 2, 24) := by kernel_rfl

theorem make_ptrs (c : Nat) (hc : c ≤ 1048576) (w : World) : (Instr.makeSlice 47 (.int .i64 0) (.int .i64 c)).run Yba.prog w = .ok (.slice (some ⟨w.heap.size, 0, none⟩) 0 c) (w.alloc (.cells (madeCells #[.pointer none] c) 26)) := by
  obtain ⟨i, hi, hz, hs, hb⟩ := info_parts Yba.info26
  have := run_make (P := Yba.prog) w 47 26 i _ Yba.underlying47 hi hz .i64 .i64 0 c (by omega) (by omega) (by rw [hb]; omega) (by omega)
  rw [hs, Nat.mul_one] at this
  exact this
theorem make_ints (n : Nat) (hn : n ≤ 1048576) (w : World) : (Instr.makeSlice 45 (.int .i64 n) (.int .i64 n)).run Yba.prog w = .ok (.slice (some ⟨w.heap.size, 0, none⟩) n n) (w.alloc (.cells (madeCells #[.int .i64 0] n) 3)) := by
  obtain ⟨i, hi, hz, hs, hb⟩ := info_parts Yba.info3
  have := run_make (P := Yba.prog) w 45 3 i _ Yba.underlying45 hi hz .i64 .i64 n n (by omega) (by omega) (by rw [hb]; omega) (by omega)
  rw [hs, Nat.mul_one] at this
  exact this
theorem make_u32s (n : Nat) (hn : n ≤ 1048576) (w : World) : (Instr.makeSlice 22 (.int .i64 n) (.int .i64 n)).run Yba.prog w = .ok (.slice (some ⟨w.heap.size, 0, none⟩) n n) (w.alloc (.cells (madeCells #[.int .u32 0] n) 23)) := by
  obtain ⟨i, hi, hz, hs, hb⟩ := info_parts Yba.info23
  have := run_make (P := Yba.prog) w 22 23 i _ Yba.underlying22 hi hz .i64 .i64 n n (by omega) (by omega) (by rw [hb]; omega) (by omega)
  rw [hs, Nat.mul_one] at this
  exact this
theorem make_ents (n : Nat) (hn : n ≤ 1048576) (w : World) : (Instr.makeSlice 53 (.int .i64 n) (.int .i64 n)).run Yba.prog w = .ok (.slice (some ⟨w.heap.size, 0, none⟩) n n) (w.alloc (.cells (madeCells #[.pointer none, .nilIface] (n * 2)) 28)) := by
  obtain ⟨i, hi, hz, hs, hb⟩ := info_parts Yba.info28
  have := run_make (P := Yba.prog) w 53 28 i _ Yba.underlying53 hi hz .i64 .i64 n n (by omega) (by omega) (by rw [hb]; omega) (by omega)
  rw [hs] at this
  exact this

/-- block b holds the values f i at its first n cells -/
def Row (w : World) (b : Nat) (f : Nat → Value) (n : Nat) : Prop :=
  b < w.heap.size ∧ ∀ i, i < n → w.cell? ⟨b, i, none⟩ = some (f i) ∧ w.frozen? ⟨b, i, none⟩ = false

theorem Row.only {w w' : World} {b : Nat} {f : Nat → Value} {n : Nat} {bs : Nat → Prop} (h : Row w b f n) (ho : Only w w' bs) (hb : ¬ bs b) : Row w' b f n := by
  have e := ho.block b h.1 hb
  refine ⟨Nat.lt_of_lt_of_le h.1 ho.size, fun i hi => ⟨?_, ?_⟩⟩
  · rw [World.cell?_of_block (w := w) e]; exact (h.2 i hi).1
  · rw [World.frozen?_of_block (w := w) e]; exact (h.2 i hi).2
theorem Row.below {w w' : World} {b : Nat} {f : Nat → Value} {n : Nat} (h : Row w b f n) (ho : Below w.heap.size w w') : Row w' b f n :=
  h.only (Only.of_below ho (fun _ => False)) (fun e => e)
theorem Row.made (w : World) (z : Value) (n : Nat) (t : TypeId) : Row (w.alloc (.cells (madeCells #[z] n) t)) w.heap.size (fun _ => z) n := by
  refine ⟨by simp, fun i hi => ⟨?_, by simp⟩⟩
  rw [World.cell?_alloc_new]
  simp [madeCells, hi, Nat.mod_one]
theorem Row.made2 (w : World) (y z : Value) (n : Nat) (t : TypeId) : Row (w.alloc (.cells (madeCells #[y, z] (n * 2)) t)) w.heap.size (fun i => if i % 2 = 0 then y else z) (n * 2) := by
  refine ⟨by simp, fun i hi => ⟨?_, by simp⟩⟩
  rw [World.cell?_alloc_new]
  rcases Nat.mod_two_eq_zero_or_one i with e | e
  · simp [madeCells, hi, e]
  · simp [madeCells, hi, e]
theorem Row.set {w : World} {b : Nat} {f : Nat → Value} {n : Nat} (h : Row w b f n) (i : Nat) (hi : i < n) (v : Value) : Row (w.setCell ⟨b, i, none⟩ v) b (fun x => if x = i then v else f x) n := by
  refine ⟨by simpa [World.setCell] using h.1, fun x hx => ⟨?_, by simpa using (h.2 x hx).2⟩⟩
  show (w.setCell ⟨b, i, none⟩ v).cell? ⟨b, x, none⟩ = some (if x = i then v else f x)
  by_cases e : x = i
  · subst e; rw [if_pos rfl]; exact World.cell?_setCell_same _ _ _ (h.2 x hx).1
  · rw [if_neg e, World.cell?_setCell_other _ _ _ _ (by intro e2; injection e2 with _ e3; exact e e3.symm)]
    exact (h.2 x hx).1
theorem Row.congr {w : World} {b : Nat} {f g : Nat → Value} {n : Nat} (h : Row w b f n) (he : ∀ i, i < n → f i = g i) : Row w b g n :=
  ⟨h.1, fun i hi => by rw [← he i hi]; exact h.2 i hi⟩
theorem Plain.only {w w' : World} {b : Nat} {bs : Nat → Prop} (h : Plain w b) (ho : Only w w' bs) (hb : ¬ bs b) : Plain w' b := by
  obtain ⟨cs, t, hc⟩ := h
  have lb : b < w.heap.size := by
    apply Nat.lt_of_not_le
    intro hle
    rw [Array.getElem?_eq_none hle] at hc
    cases hc
  exact ⟨cs, t, (ho.block b lb hb).trans hc⟩
theorem Plain.lt {w : World} {b : Nat} (h : Plain w b) : b < w.heap.size := by
  obtain ⟨cs, t, hc⟩ := h
  apply Nat.lt_of_not_le
  intro hle
  rw [Array.getElem?_eq_none hle] at hc
  cases hc

/-- the pool: L keys, each in a block of its own, with its hash -/
structure Pool (base L : Nat) (kk : Nat → Nat) (hh : Nat → Int) (w : World) : Prop where
  plain : ∀ i, i < L → Plain w (kk i)
  hash : ∀ i, i < L → w.cell? ⟨kk i, 1, none⟩ = some (.int .u64 (hh i))
  apart : ∀ i j, i < L → j < L → kk i = kk j → i = j
  ge : ∀ i, i < L → base ≤ kk i
theorem Pool.only {base L : Nat} {kk : Nat → Nat} {hh : Nat → Int} {w w' : World} {bs : Nat → Prop} (h : Pool base L kk hh w) (ho : Only w w' bs) (hb : ∀ i, i < L → ¬ bs (kk i)) : Pool base L kk hh w' :=
  ⟨fun i hi => (h.plain i hi).only ho (hb i hi), fun i hi => ho.cell (h.hash i hi) (hb i hi), h.apart, h.ge⟩
theorem Pool.below {base L : Nat} {kk : Nat → Nat} {hh : Nat → Int} {w w' : World} (h : Pool base L kk hh w) (ho : Below w.heap.size w w') : Pool base L kk hh w' :=
  h.only (Only.of_below ho (fun _ => False)) (fun _ _ e => e)
end Go.Proofs.Ybulkdoqu
