import Derived.Test.YbulkdoquRows
import Derived.WalkKit
import Derived.WalkSpells
import Derived.WalkLawsBesides
import Derived.Deep.LoopGhost
import Derived.Deep.OwnRows
import Derived.BigQuiet
namespace Go.Proofs.Ybulkdoqu
open Go.RowKit
set_option linter.unusedSimpArgs false

theorem Yba.info35 : (Yba.prog.info? 35).map (fun i => (i.zero, i.size, i.bytes)) = some (some (.agg #[.pointer none, .nilIface, .int .u32 0, .int .u32 0, .int .u32 0, .int .u32 0]), 6, 40) := by kernel_rfl

def cellZ : Array Value := #[.pointer none, .nilIface, .int .u32 0, .int .u32 0, .int .u32 0, .int .u32 0]

theorem make_cells (l : Nat) (hl : l ≤ 1048576) (w : World) : (Instr.makeSlice 25 (.int .i64 l) (.int .i64 l)).run Yba.prog w = .ok (.slice (some ⟨w.heap.size, 0, none⟩) l l) (w.alloc (.cells (madeCells cellZ (l * 6)) 35)) := by
  obtain ⟨i, hi, hz, hs, hb⟩ := info_parts Yba.info35
  have := run_make (P := Yba.prog) w 25 35 i _ Yba.underlying25 hi hz .i64 .i64 l l (by omega) (by omega) (by rw [hb]; omega) (by omega)
  rw [hs] at this
  exact this

/-- the store's cells while the keys' counts are being laid -/
def Cnt (w : World) (B l : Nat) (z : Nat → Int) (j : Nat) : Prop :=
  ∀ i, i < l → w.cell? ⟨B, i * 6 + 3, none⟩ = some (.int .u32 (if i < j then z i else 0)) ∧ w.cell? ⟨B, i * 6 + 2, none⟩ = some (.int .u32 0) ∧ w.frozen? ⟨B, i * 6 + 3, none⟩ = false

set_option maxRecDepth 100000 in
set_option maxHeartbeats 400000 in
theorem len_any (S B l n : Nat) (z : Nat → Int) (w : World) (hS : w.cell? ⟨S, 0, none⟩ = some (.slice (some ⟨B, 0, none⟩) l l)) (hC : Cnt w B l z l) (hn : n ≤ l) (hl : l ≤ 1048576) (hz : ∀ i, 0 ≤ z i ∧ z i ≤ 4294967295) :
    Calls Yba.prog 5 #[.agg #[.pointer (some ⟨S, 0, none⟩), .int .u32 n]] w fun e w' => e = .returned (.int .i64 (if n = 0 then 0 else z (n - 1))) ∧ Below w.heap.size w w' := by
  have lS := World.block_lt_of_cell? w _ hS
  cases n with
  | zero =>
    go_enter Yba.func5, Yba.ntmps5
    go_wp2
    go_ret
    exact ⟨rfl, (Below.refl _ _).alloc (Nat.le_refl _) _⟩
  | succ n =>
    obtain ⟨h1, _, _⟩ := hC n (by omega)
    rw [if_pos (by omega)] at h1
    have hzn := hz n
    have lB := World.block_lt_of_cell? w _ h1
    have hq : (((n + 1 : Nat) : Int) == 0) = false := beq_eq_false_iff_ne.2 (by omega)
    have hi0 : (0 : Int) ≤ (n : Int) := by omega
    have hi1 : (n : Int) < (l : Int) := by omega
    clear hC hz
    go_enter Yba.func5, Yba.ntmps5
    go_wp2
    go_quiet (fail)
    go_wp2
    go_ret
    refine ⟨by simp, ?_⟩
    exact below_drewN ((Below.refl _ _).alloc (Nat.le_refl _) _) nq

open Go.ChangeShapes

theorem cellZ_at (i l : Nat) (h : i < l) : (madeCells cellZ (l * 6))[i * 6 + 3]? = some (.int .u32 0) ∧ (madeCells cellZ (l * 6))[i * 6 + 2]? = some (.int .u32 0) := by
  have h3 : i * 6 + 3 < l * 6 := by omega
  have h2 : i * 6 + 2 < l * 6 := by omega
  have e3 : (i * 6 + 3) % 6 = 3 := by omega
  have e2 : (i * 6 + 2) % 6 = 2 := by omega
  constructor <;> simp [madeCells, h3, h2, cellZ, e3, e2]

theorem Cnt.start (w : World) (l : Nat) (z : Nat → Int) : Cnt (w.alloc (.cells (madeCells cellZ (l * 6)) 35)) w.heap.size l z 0 := by
  intro i hi
  simp [cellZ_at i l hi]

theorem Cnt.step {w : World} {B l : Nat} {z : Nat → Int} {j : Nat} (h : Cnt w B l z j) (hj : j < l) : Cnt (w.setCell ⟨B, j * 6 + 3, none⟩ (.int .u32 (z j))) B l z (j + 1) := by
  intro i hi
  obtain ⟨h1, h2, h3⟩ := h i hi
  refine ⟨?_, ?_, by simpa using h3⟩
  · by_cases e : i = j
    · subst e
      rw [if_pos (by omega)]
      exact World.cell?_setCell_same _ _ _ h1
    · rw [World.cell?_setCell_other _ _ _ _ (by intro hh; injection hh; omega), h1]
      by_cases hlt : i < j
      · rw [if_pos hlt, if_pos (by omega)]
      · rw [if_neg hlt, if_neg (by omega)]
  · rw [World.cell?_setCell_other _ _ _ _ (by intro hh; injection hh; omega), h2]

theorem Cnt.below {w w' : World} {B l : Nat} {z : Nat → Int} {j : Nat} (h : Cnt w B l z j) (b : Below w.heap.size w w') : Cnt w' B l z j := by
  intro i hi
  obtain ⟨h1, h2, h3⟩ := h i hi
  have lb := World.block_lt_of_cell? w _ h1
  exact ⟨(b.cell lb).trans h1, (b.cell (p := ⟨B, i * 6 + 2, none⟩) lb).trans h2, (b.frozen lb).trans h3⟩

set_option maxRecDepth 100000 in
set_option maxHeartbeats 1000000 in
theorem law_any (a : Option Addr) (b off l cap m : Nat) (z : List Int) (n : Int) (w : World) (hlc : l ≤ cap) (hl : l ≤ 1048576) (hn : 0 ≤ n ∧ n ≤ 4294967295) (hm : n % ((l : Int) + 1) = m)
    (hz : ∀ i, i < l → w.cell? ⟨b, off + i, none⟩ = some (.int .u32 (z.getD i 0))) (hb : ∀ i, 0 ≤ z.getD i 0 ∧ z.getD i 0 ≤ 4294967295) (hbw : 0 < l → b < w.heap.size) (ha : 0 < l → a = some ⟨b, off, none⟩) :
    Calls Yba.prog 3 #[.slice a l cap, .int .u32 n] w fun e w' => e = .returned (.bool true) ∧ Below w.heap.size w w' := by
  have h0 : ¬ ((1048576 : Int) < l) := by omega
  have hm0 : ¬ ((l : Int) < 0) := by omega
  have hml : m ≤ l := by have := Int.emod_lt_of_pos n (show (0:Int) < (l : Int) + 1 by omega); omega
  have hmm : n % ((l : Int) + 1) % 4294967296 = m := by rw [hm]; omega
  have hmk := make_cells l hl w
  have HZ : Hid (∀ i, i < l → w.cell? ⟨b, off + i, none⟩ = some (.int .u32 (z.getD i 0))) := hz
  have HB : Hid (∀ i, 0 ≤ z.getD i 0 ∧ z.getD i 0 ≤ 4294967295) := hb
  clear hz hb
  go_enter Yba.func3, Yba.ntmps3
  go_wp2
  have HW : Hid (Cnt (w.alloc (.cells (madeCells cellZ (l * 6)) 35)) w.heap.size l (fun i => z.getD i 0) 0) := Cnt.start w l _
  have HBel : Hid (Below w.heap.size w (w.alloc (.cells (madeCells cellZ (l * 6)) 35))) := (Below.refl _ _).alloc (Nat.le_refl _) _
  generalize w.alloc (.cells (madeCells cellZ (l * 6)) 35) = w1 at HW HBel ⊢
  clear hm hmm hmk hn
  go_loopw [8] (fun i wr => ∃ k : Nat, i = .int .i64 k ∧ k ≤ l ∧ Cnt wr w.heap.size l (fun i => z.getD i 0) k ∧ Below w.heap.size w wr) (fun i _ => l - (intOf i).toNat)
  case atStart => exact ⟨0, rfl, Nat.zero_le _, HW.out, HBel.out⟩
  case round =>
    obtain ⟨k, rfl, hk, hC, hB⟩ := hrel
    have HC : Hid (Cnt wr w.heap.size l (fun i => z.getD i 0) k) := hC
    clear hC
    by_cases hlt : k < l
    · obtain rfl := ha (by omega)
      have cx : wr.cell? ⟨b, off + k, none⟩ = some (.int .u32 (z.getD k 0)) := (hB.cell (by exact hbw (by omega))).trans (HZ.out k hlt)
      obtain ⟨c3, c2, f3⟩ := HC.out k hlt
      have lB := World.block_lt_of_cell? wr _ c3
      have lb : b < wr.heap.size := World.block_lt_of_cell? wr _ cx
      have zb := HB.out k
      rw [if_neg (by omega)] at c3
      rw [List.getD_eq_getElem?_getD] at cx zb
      go_wp2
      go_roundw
      case rel =>
        refine ⟨k + 1, by go_num, by omega, ?_, hB.setCell (by simp) _⟩
        have := HC.out.step hlt
        simpa only [List.getD_eq_getElem?_getD] using this
      case measure => simp [intOf]; omega
    · obtain rfl : k = l := by omega
      go_wp2_with fail
      refine (len_any wr.heap.size w.heap.size k m (fun i => z.getD i 0) _ ?_ ?_ hml hl HB.out).mono ?_
      · simp [go_sem]
      · exact (HC.out.below ((Below.refl _ _).alloc (Nat.le_refl _) _)).below ((Below.refl _ _).alloc (Nat.le_refl _) _)
      rintro e w2 ⟨rfl, hB2⟩
      have hbs : w.heap.size ≤ wr.heap.size := hB.size
      have HC2 : Hid (Cnt w2 w.heap.size k (fun i => z.getD i 0) k) := (((HC.out.below ((Below.refl _ _).alloc (Nat.le_refl _) _)).below ((Below.refl _ _).alloc (Nat.le_refl _) _)).below hB2)
      have cS : w2.cell? ⟨wr.heap.size, 0, none⟩ = some (Value.slice (some { block := w.heap.size, off := 0 }) k k) := (hB2.cell (by simp; omega)).trans (by simp [go_sem])
      have cT0 : w2.cell? ⟨wr.heap.size + 1, 0, none⟩ = some (Value.pointer (some { block := wr.heap.size, off := 0 })) := (hB2.cell (by simp)).trans (by simp [go_sem])
      have cT1 : w2.cell? ⟨wr.heap.size + 1, 1, none⟩ = some (.int .u32 m) := (hB2.cell (by simp)).trans (by simp [go_sem])
      have HB3 : Hid (Below w.heap.size w w2) := ((hB.alloc hbs _).alloc (by simp; omega) _).trans (hB2.mono (by simp; omega))
      clear hB2 HC hB HW HBel
      have lS := World.block_lt_of_cell? w2 _ cS
      have lT := World.block_lt_of_cell? w2 _ cT0
      cases m with
      | zero =>
        rw [if_pos rfl]
        go_wp2
        go_loopw [12] (fun i wr => ∃ q : Nat, i = .int .i64 q ∧ q ≤ k ∧ Cnt wr w.heap.size k (fun i => z.getD i 0) k ∧ Below w.heap.size w wr) (fun i _ => k - (intOf i).toNat)
        case atStart => exact ⟨0, rfl, Nat.zero_le _, HC2.out, HB3.out⟩
        case round =>
          obtain ⟨q, rfl, hq, hC4, hB4⟩ := hrel
          have HC4 : Hid (Cnt wr w.heap.size k (fun i => z.getD i 0) k) := hC4
          have HB4 : Hid (Below w.heap.size w wr) := hB4
          clear hC4
          by_cases hlt : q < k
          · obtain rfl := ha (by omega)
            have cx : wr.cell? ⟨b, off + q, none⟩ = some (.int .u32 (z.getD q 0)) := (hB4.cell (by exact hbw (by omega))).trans (HZ.out q hlt)
            obtain ⟨c3, c2, f3⟩ := HC4.out q hlt
            clear hB4
            have lB := World.block_lt_of_cell? wr _ c3
            have lb : b < wr.heap.size := World.block_lt_of_cell? wr _ cx
            have zb := HB.out q
            have c3 : wr.cell? ⟨w.heap.size, q * 6 + 3, none⟩ = some (.int .u32 (z.getD q 0)) := c3.trans (by rw [if_pos hlt])
            generalize z.getD q 0 = y at cx zb c3
            go_wp2
            go_quiet (fail)
            go_wp2
            go_roundw
            case rel => exact ⟨q + 1, by go_num, by omega, HC4.out.below (below_drewN (Below.refl _ _) _), below_drewN HB4.out _⟩
            case measure => simp [intOf]; omega
          · obtain rfl : q = k := by omega
            go_wp2
            go_ret
            exact ⟨rfl, HB4.out⟩
      | succ m =>
        rw [if_neg (by omega)]
        obtain rfl := ha (by omega)
        have cx : w2.cell? ⟨b, off + m, none⟩ = some (.int .u32 (z.getD m 0)) := (HB3.out.cell (by exact hbw (by omega))).trans (HZ.out m (by omega))
        have zb := HB.out m
        rw [Nat.add_sub_cancel]
        generalize z.getD m 0 = y at cx zb ⊢
        have hq : ¬ (((m + 1 : Nat) : Int) = 0) := by omega
        have lb := World.block_lt_of_cell? w2 _ cx
        go_wp2
        go_loopw [12] (fun i wr => ∃ q : Nat, i = .int .i64 q ∧ q ≤ k ∧ Cnt wr w.heap.size k (fun i => z.getD i 0) k ∧ Below w.heap.size w wr) (fun i _ => k - (intOf i).toNat)
        case atStart => exact ⟨0, rfl, Nat.zero_le _, HC2.out, HB3.out⟩
        case round =>
          obtain ⟨q, rfl, hq, hC4, hB4⟩ := hrel
          have HC4 : Hid (Cnt wr w.heap.size k (fun i => z.getD i 0) k) := hC4
          have HB4 : Hid (Below w.heap.size w wr) := hB4
          clear hC4
          by_cases hlt : q < k
          · have cx : wr.cell? ⟨b, off + q, none⟩ = some (.int .u32 (z.getD q 0)) := (hB4.cell (by exact hbw (by omega))).trans (HZ.out q hlt)
            obtain ⟨c3, c2, f3⟩ := HC4.out q hlt
            clear hB4
            have lB := World.block_lt_of_cell? wr _ c3
            have lb : b < wr.heap.size := World.block_lt_of_cell? wr _ cx
            have zb := HB.out q
            have c3 : wr.cell? ⟨w.heap.size, q * 6 + 3, none⟩ = some (.int .u32 (z.getD q 0)) := c3.trans (by rw [if_pos hlt])
            generalize z.getD q 0 = y at cx zb c3
            go_wp2
            go_quiet (fail)
            go_wp2
            go_roundw
            case rel => exact ⟨q + 1, by go_num, by omega, HC4.out.below (below_drewN (Below.refl _ _) _), below_drewN HB4.out _⟩
            case measure => simp [intOf]; omega
          · obtain rfl : q = k := by omega
            go_wp2
            go_ret
            exact ⟨rfl, HB4.out⟩
end Go.Proofs.Ybulkdoqu
