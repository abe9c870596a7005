import Derived.Test.YbulkdommParts
import Derived.BigQuiet
namespace Go.Proofs.Ybulkdomm
open Go.RowKit

def zeros : Array Value := Array.replicate 256 (.bool false)
theorem zero22 (w : World) : (zeroValue 22).run Yba.prog w = .ok (.agg zeros) w := by kernel_rfl
theorem zeros_at (i : Nat) (h : i < 256) : zeros[i]? = some (.bool false) := by simp [zeros, h]
/-- The table after j bytes. -/
def tabOf (s : ByteArray) (j : Nat) (i : Nat) : Bool := (List.range j).any (fun m => byt s m == i)

theorem Tab.set {w : World} {T : Nat} {tab : Nat → Bool} (h : Tab w T tab) (i : Nat) : Tab (w.setCell ⟨T, i, none⟩ (.bool true)) T (fun m => tab m || m == i) := by
  obtain ⟨cur, h1, h2⟩ := h
  refine ⟨cur.setIfInBounds i (.bool true), ?_, ?_⟩
  · have hlt := lt_of_block h1
    have h' : w.heap[T] = .cells cur 22 (0, 0) := by simpa [Array.getElem?_eq_getElem hlt] using h1
    show (w.heap.modify T _)[T]? = _
    rw [Array.getElem?_eq_getElem (by simpa using hlt), Array.getElem_modify_self, h']
    rfl
  · intro m hm
    have hs : m < cur.size := by
      rcases Nat.lt_or_ge m cur.size with h' | h'
      · exact h'
      · have := h2 m hm; rw [Array.getElem?_eq_none h'] at this; simp at this
    rw [Array.getElem?_setIfInBounds]
    by_cases e : i = m
    · subst e; simp [hs]
    · rw [if_neg e, h2 m hm]; show _ = some (Value.bool (tab m || m == i)); rw [show (m == i) = false from beq_eq_false_iff_ne.2 (fun h => e h.symm), Bool.or_false]

theorem tabOf_succ (s : ByteArray) (j : Nat) : tabOf s (j + 1) = fun m => tabOf s j m || m == byt s j := by
  funext m
  simp only [tabOf, List.range_succ, List.any_append, List.any_cons, List.any_nil, Bool.or_false]
  congr 1
  exact Bool.beq_comm
theorem Inv.drewN {T C : Nat} {tab : Nat → Bool} {xs : List Value} {w : World} (h : Inv T C tab xs w) (n : Nat) : Inv T C tab xs (w.drewN n) := by
  obtain ⟨hT, ⟨v, hC, hown⟩, hlt⟩ := h
  exact ⟨hT, ⟨v, hC, hown⟩, hlt⟩

theorem Tab.free {w : World} {T : Nat} {tab : Nat → Bool} (h : Tab w T tab) (i : Nat) : w.frozen? ⟨T, i, none⟩ = false := by
  obtain ⟨cur, h1, h2⟩ := h
  simp [World.frozen?, h1]

theorem Inv.shape {T C : Nat} {tab : Nat → Bool} {s : ByteArray} {n : Nat} {w : World} (h : Inv T C tab (pre s n) w) :
    ∃ sa sc, w.heap[C]? = some (.cells #[.slice sa n sc] 23 (0, 0)) ∧ ∀ j, j < n → ∃ g, sa = some ⟨g, 0, none⟩ ∧ w.cell? ⟨g, j, none⟩ = some (.int .u8 (byt s j)) := by
  obtain ⟨_, ⟨v, hC, hown⟩, _⟩ := h
  rw [pre_len] at hown
  have ho := hown
  rcases hown.2 with ⟨rfl, rfl⟩ | ⟨g, cap, cur, rfl, _⟩
  · exact ⟨_, _, hC, fun j hj => absurd hj (by omega)⟩
  · refine ⟨_, _, hC, fun j hj => ⟨g, rfl, ?_⟩⟩
    rw [ho.cellAt j (by omega)]
    simp [pre, hj]

set_option maxHeartbeats 1000000 in
theorem walk (a0 : ByteArray) (a1 : ByteArray) (w0 : a0.size ≤ 140737488351232) (w1 : a1.size ≤ 140737488351232) (w : World) :
    Calls Yba.prog 3 #[.string a0, .string a1] w fun e w' => e = .returned (.bool true) ∧ Below w.heap.size w w' := by
  by_cases hbig : 1048576 < a0.size + a1.size
  · go_enter Yba.func3, Yba.ntmps3
    go_wp2
    go_ret
    exact ⟨rfl, Below.refl _ _⟩
  · have hz := zero22
    go_enter Yba.func3, Yba.ntmps3
    go_wp2
    clear hz
    go_loopw [6] (fun i wr => ∃ j : Nat, j ≤ a1.size ∧ i = .int .i64 j ∧ Tab wr w.heap.size (tabOf a1 j) ∧ wr.heap.size = w.heap.size + 1 ∧ Below w.heap.size w wr) (fun i _ => a1.size - (intOf i).toNat)
    case atStart => exact ⟨0, Nat.zero_le _, rfl, ⟨zeros, heap_alloc_new w _, fun i hi => by rw [zeros_at i hi]; rfl⟩, by simp, (Below.refl _ _).alloc (Nat.le_refl _) _⟩
    case round =>
      obtain ⟨j, hj, rfl, hT, hsz, hB⟩ := hrel
      by_cases hlt : j < a1.size
      · have hl := byt_lt a1 j
        have hbe := byt_eq hlt
        have hc := hT.cell (byt a1 j) hl
        have hf := hT.free (byt a1 j)
        go_wp2
        go_roundw
        case rel => exact ⟨j + 1, by omega, by go_num, by rw [tabOf_succ]; exact hT.set _, by simp [World.setCell, hsz], hB.setCell (by simp) _⟩
        case measure => simp [intOf]; omega
      · have hI : Inv w.heap.size (w.heap.size + 1) (tabOf a1 j) [] (wr.alloc (.cells #[.slice none 0 0] 23)) :=
          ⟨hT.of_block (Below.heap_alloc _ _ _ (by omega)), ⟨_, by rw [← hsz]; exact heap_alloc_new wr _, World.ownsRow_nil _ _ _ _⟩, by omega⟩
        have hB1 : Below w.heap.size w (wr.alloc (.cells #[.slice none 0 0] 23)) := hB.alloc (by omega) _
        go_wp2_with fail
        refine (madeOf_any w.heap.size (w.heap.size + 1) a0 (tabOf a1 j) _ (by omega) hI).mono ?_
        rintro e w2 ⟨k0, hS, rfl, hI2, hB2⟩
        replace hB2 := hB1.trans hB2
        clear hB1 hI hB hsz hT
        generalize tabOf a1 j = tab at *
        obtain ⟨hk0, hall, hstop⟩ := hS
        have HA : Hid (∀ j, j < k0 → tab (byt a0 j) = true) := hall
        have HS : Hid (k0 < a0.size → tab (byt a0 k0) = false) := hstop
        clear hall hstop
        obtain ⟨n, g, hn, hg, hcase⟩ : ∃ (n : Nat) (g : Bool), (if k0 < a0.size then k0 + 1 else k0) = n ∧ decide (k0 = a0.size ∧ 0 < a0.size) = g ∧
            ((k0 < a0.size ∧ n = k0 + 1 ∧ g = false) ∨ (¬ k0 < a0.size ∧ n = k0 ∧ 0 < a0.size ∧ g = true) ∨ (¬ k0 < a0.size ∧ n = k0 ∧ ¬ 0 < a0.size ∧ g = false)) := by
          refine ⟨_, _, rfl, rfl, ?_⟩
          by_cases h1 : k0 < a0.size
          · left; rw [if_pos h1]; exact ⟨h1, rfl, decide_eq_false (by omega)⟩
          · by_cases h2 : 0 < a0.size
            · right; left; rw [if_neg h1]; exact ⟨h1, rfl, h2, decide_eq_true (by omega)⟩
            · right; right; rw [if_neg h1]; exact ⟨h1, rfl, h2, decide_eq_false (by omega)⟩
        rw [hn] at hI2
        rw [hg]
        clear hn hg
        obtain ⟨sa, sc, hC, hcells⟩ := hI2.shape
        have cC := cell_of_one hC
        have hnn : n ≤ a0.size := by omega
        have HC : Hid (∀ j, j < n → ∃ g, sa = some ⟨g, 0, none⟩ ∧ w2.cell? ⟨g, j, none⟩ = some (.int .u8 (byt a0 j))) := hcells
        clear hcells hC
        rcases hcase with ⟨hkl, rfl, rfl⟩ | ⟨hkl, rfl, hpos, rfl⟩ | ⟨hkl, rfl, hpos, rfl⟩
        · go_wp2
          go_loopw [10] (fun i wr => ∃ k : Nat, k ≤ k0 ∧ i = .int .i64 k ∧ w2 = wr) (fun i _ => k0 - (intOf i).toNat)
          case atStart => exact ⟨0, Nat.zero_le _, rfl, rfl⟩
          case round =>
            obtain ⟨k, hk, rfl, rfl⟩ := hrel
            by_cases hkk : k < k0
            · have hkl : k < a0.size := by omega
              have hl := byt_lt a0 k
              have hbe := byt_eq hkl
              have hc := hI2.tab.cell (byt a0 k) hl
              rw [HA.out k hkk] at hc
              go_wp2
              go_roundw
              case rel => exact ⟨k + 1, by omega, by go_num, trivial⟩
              case measure => simp [intOf]; omega
            · obtain rfl : k = k0 := by omega
              have hl := byt_lt a0 k
              have hbe := byt_eq hkl
              have hc := hI2.tab.cell (byt a0 k) hl
              rw [HS.out hkl] at hc
              have hne : ((k : Int) == (a0.size : Int)) = false := beq_eq_false_iff_ne.2 (by omega)
              go_wp2
              clear hc hbe
              go_loopw [13] (fun i wr => ∃ m : Nat, m ≤ k + 1 ∧ i = .int .i64 m ∧ ∃ q, wr = w2.drewN q) (fun i _ => k + 1 - (intOf i).toNat)
              case atStart => exact ⟨0, Nat.zero_le _, rfl, 0, rfl⟩
              case round =>
                obtain ⟨m, hm, rfl, q, rfl⟩ := hrel
                by_cases hmn : m < k + 1
                · obtain ⟨g, rfl, hcg⟩ := HC.out m hmn
                  have hbm := byt_eq (show m < a0.size by omega)
                  have hne : (((byt a0 m : Nat) : Int) != ((byt a0 m : Nat) : Int)) = false := by simp
                  go_wp2
                  go_quiet (fail)
                  go_wp2
                  go_roundw
                  case rel => exact ⟨m + 1, by omega, by go_num, _, rfl⟩
                  case measure => simp [intOf]; omega
                · go_wp2
                  go_ret
                  exact ⟨rfl, below_drewN hB2 _⟩
        · obtain rfl : n = a0.size := by omega
          have hee : ((a0.size : Int) == (a0.size : Int)) = true := by simp
          go_wp2
          go_loopw [10] (fun i wr => ∃ k : Nat, k ≤ a0.size ∧ i = .int .i64 k ∧ w2 = wr) (fun i _ => a0.size - (intOf i).toNat)
          case atStart => exact ⟨0, Nat.zero_le _, rfl, rfl⟩
          case round =>
            obtain ⟨k, hk, rfl, rfl⟩ := hrel
            by_cases hkk : k < a0.size
            · have hl := byt_lt a0 k
              have hbe := byt_eq hkk
              have hc := hI2.tab.cell (byt a0 k) hl
              rw [HA.out k hkk] at hc
              go_wp2
              go_roundw
              case rel => exact ⟨k + 1, by omega, by go_num, trivial⟩
              case measure => simp [intOf]; omega
            · obtain rfl : k = a0.size := by omega
              go_wp2
              go_loopw [13] (fun i wr => ∃ m : Nat, m ≤ a0.size ∧ i = .int .i64 m ∧ ∃ q, wr = w2.drewN q) (fun i _ => a0.size - (intOf i).toNat)
              case atStart => exact ⟨0, Nat.zero_le _, rfl, 0, rfl⟩
              case round =>
                obtain ⟨m, hm, rfl, q, rfl⟩ := hrel
                by_cases hmn : m < a0.size
                · obtain ⟨g, rfl, hcg⟩ := HC.out m hmn
                  have hbm := byt_eq (show m < a0.size by omega)
                  have hne : (((byt a0 m : Nat) : Int) != ((byt a0 m : Nat) : Int)) = false := by simp
                  go_wp2
                  go_quiet (fail)
                  go_wp2
                  go_roundw
                  case rel => exact ⟨m + 1, by omega, by go_num, _, rfl⟩
                  case measure => simp [intOf]; omega
                · go_wp2
                  go_ret
                  exact ⟨rfl, below_drewN hB2 _⟩
        · obtain rfl : n = a0.size := by omega
          have hee : ((a0.size : Int) == (a0.size : Int)) = true := by simp
          go_wp2
          go_loopw [10] (fun i wr => ∃ k : Nat, k ≤ a0.size ∧ i = .int .i64 k ∧ w2 = wr) (fun i _ => a0.size - (intOf i).toNat)
          case atStart => exact ⟨0, Nat.zero_le _, rfl, rfl⟩
          case round =>
            obtain ⟨k, hk, rfl, rfl⟩ := hrel
            by_cases hkk : k < a0.size
            · have hl := byt_lt a0 k
              have hbe := byt_eq hkk
              have hc := hI2.tab.cell (byt a0 k) hl
              rw [HA.out k hkk] at hc
              go_wp2
              go_roundw
              case rel => exact ⟨k + 1, by omega, by go_num, trivial⟩
              case measure => simp [intOf]; omega
            · obtain rfl : k = a0.size := by omega
              go_wp2
              go_loopw [13] (fun i wr => ∃ m : Nat, m ≤ a0.size ∧ i = .int .i64 m ∧ ∃ q, wr = w2.drewN q) (fun i _ => a0.size - (intOf i).toNat)
              case atStart => exact ⟨0, Nat.zero_le _, rfl, 0, rfl⟩
              case round =>
                obtain ⟨m, hm, rfl, q, rfl⟩ := hrel
                by_cases hmn : m < a0.size
                · obtain ⟨g, rfl, hcg⟩ := HC.out m hmn
                  have hbm := byt_eq (show m < a0.size by omega)
                  have hne : (((byt a0 m : Nat) : Int) != ((byt a0 m : Nat) : Int)) = false := by simp
                  go_wp2
                  go_quiet (fail)
                  go_wp2
                  go_roundw
                  case rel => exact ⟨m + 1, by omega, by go_num, _, rfl⟩
                  case measure => simp [intOf]; omega
                · go_wp2
                  go_ret
                  exact ⟨rfl, below_drewN hB2 _⟩
end Go.Proofs.Ybulkdomm
