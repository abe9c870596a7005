import Derived.Test.YbulkdommRows
import Derived.WalkKit
import Derived.WalkSpells
import Derived.WalkLawsBesides
namespace Go.Proofs.Ybulkdomm
open Go.RowKit

theorem Yba.info5 : (Yba.prog.info? 5).map (fun i => (i.zero, i.size, i.bytes)) = some (some (.int .u8 0), 1, 1) := by kernel_rfl

/-- The array of 256 bools in block T reads as 'tab'. -/
def Tab (w : World) (T : Nat) (tab : Nat → Bool) : Prop :=
  ∃ cur : Array Value, w.heap[T]? = some (.cells cur 22 (0, 0)) ∧ ∀ i, i < 256 → cur[i]? = some (.bool (tab i))

theorem Tab.cell {w : World} {T : Nat} {tab : Nat → Bool} (h : Tab w T tab) (i : Nat) (hi : i < 256) : w.cell? ⟨T, i, none⟩ = some (.bool (tab i)) := by
  obtain ⟨cur, h1, h2⟩ := h
  simp [World.cell?, h1, h2 i hi]

theorem Tab.lt {w : World} {T : Nat} {tab : Nat → Bool} (h : Tab w T tab) : T < w.heap.size := by
  obtain ⟨cur, h1, h2⟩ := h
  exact lt_of_block h1

theorem Tab.of_block {w w' : World} {T : Nat} {tab : Nat → Bool} (h : Tab w T tab) (e : w'.heap[T]? = w.heap[T]?) : Tab w' T tab := by
  obtain ⟨cur, h1, h2⟩ := h
  exact ⟨cur, by rw [e, h1], h2⟩

/-- What the closure keeps: the table in T; in C the slice of what was called, 'xs', in rows from 'base' on. -/
structure Inv (T C : Nat) (tab : Nat → Bool) (xs : List Value) (w : World) : Prop where
  tab : Tab w T tab
  calls : ∃ v, w.heap[C]? = some (.cells #[v] 23 (0, 0)) ∧ w.ownsRow (C + 1) 5 1 v xs.length xs
  lt : T < C

theorem ownsRow_slice {w : World} {base : Nat} {e : TypeId} {size : Nat} {v : Value} {n : Nat} {xs : List Value} (h : w.ownsRow base e size v n xs) : ∃ a c, v = .slice a n c := by
  rcases h.2 with ⟨rfl, rfl⟩ | ⟨g, cap, cur, rfl, _⟩
  · exact ⟨_, _, rfl⟩
  · exact ⟨_, _, rfl⟩

set_option maxHeartbeats 400000 in
theorem in_any (T C : Nat) (c : Int) (xs : List Value) (tab : Nat → Bool) (w : World) (hc0 : 0 ≤ c) (hc1 : c < 256) 
   (hI : Inv T C tab xs w) (hn : xs.length ≤ 1048576) :
    Calls Yba.prog 4 #[.int .u8 c, .pointer (some ⟨C,0,none⟩), .pointer (some ⟨T,0,none⟩)] w fun e w' => e = .returned (.bool (tab c.toNat)) ∧ Inv T C tab (xs ++ [.int .u8 c]) w' ∧ Below T w w' := by
  obtain ⟨hT, ⟨v, hC, hown⟩, hlt⟩ := hI
  obtain ⟨i0, hi, hz0, hz1, hz2⟩ := info_parts Yba.info5
  have cC := cell_of_one hC
  have fC := free_of_one hC
  have lC := lt_of_block hC
  go_enter Yba.func4, Yba.ntmps4
  go_wp2_with (at_builtin; refine wpList_append_own _ rfl _ _ 23 rfl (C + 1) 5 i0 (.int .u8 0) 1 1 Yba.underlying23 hi hz0 hz1 hz2 rfl (by decide) _ _ _ rfl (hown.alloc _) ⟨w.heap.size, 0, none⟩ 1 1 [.int .u8 c] rfl rfl (cell_one_new _ _ _) ?c2 ?c3 ?c4 ?c5 ?_)
  case c2 => intro u hu; simp at hu; subst hu; rfl
  case c3 => unfold maxLen; omega
  case c4 => omega
  case c5 => simp; omega
  · intro v' w1 hown' hgrow _
    obtain ⟨sa, sc, rfl⟩ := ownsRow_slice hown'
    have hvb : v.ownBlock ≠ some C ∧ v.ownBlock ≠ some T := by
      constructor <;> (intro e; have := (hown.lt _ e).1; omega)
    have hz : w.heap.size + 1 ≤ w1.heap.size := by have := hgrow.size; simpa using this
    have bC : w1.heap[C]? = some (.cells #[v] 23 (0, 0)) := by
      rw [hgrow.block C (by simp; omega) (fun e => hvb.1 e.symm), Below.heap_alloc _ _ _ lC]; exact hC
    have hT1 : Tab w1 T tab := hT.of_block (by rw [hgrow.block T (by simp; omega) (fun e => hvb.2 e.symm), Below.heap_alloc _ _ _ (by omega)])
    have hB : Below T w w1 := ((Below.refl T w).alloc (by omega) _).grown hgrow (by simp; omega) (fun k hk => by have := (hown.lt k hk).1; omega)
    have fin : Inv T C tab (xs ++ [.int .u8 c]) (w1.setCell ⟨C, 0, none⟩ (.slice sa (xs.length + 1) sc)) ∧ Below T w (w1.setCell ⟨C, 0, none⟩ (.slice sa (xs.length + 1) sc)) := by
      refine ⟨⟨hT1.of_block (Below.heap_setCell _ _ _ _ (by simp; omega)), ⟨_, one_setCell bC, ?_⟩, hlt⟩, hB.setCell (by simp; omega) _⟩
      rw [List.length_append]
      exact ownsRow_setCell_below hown' (by simp) _
    have HF : Hid (Inv T C tab (xs ++ [.int .u8 c]) (w1.setCell ⟨C, 0, none⟩ (.slice sa (xs.length + 1) sc)) ∧ Below T w (w1.setCell ⟨C, 0, none⟩ (.slice sa (xs.length + 1) sc))) := fin
    have cT : (w1.setCell ⟨C, 0, none⟩ (.slice sa (xs.length + 1) sc)).cell? ⟨T, c.toNat, none⟩ = some (.bool (tab c.toNat)) := fin.1.tab.cell _ (by omega)
    have c1 := cell_of_one bC
    have f1 := free_of_one bC
    clear fin hT1 hB bC hown' hgrow hown hT hC cC fC
    go_wp2
    go_ret
    exact ⟨rfl, HF.out⟩

def byt (s : ByteArray) (k : Nat) : Nat := (s.data.toList.getD k 0).toNat
theorem byt_eq {s : ByteArray} {k : Nat} (h : k < s.size) : s[k].toNat = byt s k := by
  unfold byt
  have : k < s.data.toList.length := by simpa using h
  rw [List.getD_eq_getElem?_getD, List.getElem?_eq_getElem this]; rfl
theorem byt_lt (s : ByteArray) (k : Nat) : byt s k < 256 := by
  unfold byt; exact UInt8.toNat_lt _
def pre (s : ByteArray) (k : Nat) : List Value := (List.range k).map (fun j => Value.int .u8 (byt s j))
theorem pre_succ (s : ByteArray) (k : Nat) : pre s (k + 1) = pre s k ++ [.int .u8 (byt s k)] := by
  simp [pre, List.range_succ]
theorem pre_len (s : ByteArray) (k : Nat) : (pre s k).length = k := by simp [pre]

/-- How the scan ends: at place k, all before it accepted. -/
def Scan (tab : Nat → Bool) (s : ByteArray) (k : Nat) : Prop := k ≤ s.size ∧ (∀ j, j < k → tab (byt s j) = true) ∧ (k < s.size → tab (byt s k) = false)

set_option maxHeartbeats 400000 in
theorem madeOf_any (T C : Nat) (s : ByteArray) (tab : Nat → Bool) (w : World) (hs : s.size ≤ 1048576)
   (hI : Inv T C tab [] w) :
    Calls Yba.prog 5 #[.string s, .func (.func 4) #[] #[.pointer (some ⟨C,0,none⟩), .pointer (some ⟨T,0,none⟩)]] w fun e w' =>
      ∃ k, Scan tab s k ∧ e = .returned (.bool (decide (k = s.size ∧ 0 < s.size))) ∧ Inv T C tab (pre s (if k < s.size then k + 1 else k)) w' ∧ Below T w w' := by
  go_enter Yba.func5, Yba.ntmps5
  go_wp2
  go_loopw [8] (fun i wr => ∃ k : Nat, k ≤ s.size ∧ i = .int .i64 k ∧ (∀ j, j < k → tab (byt s j) = true) ∧ Inv T C tab (pre s k) wr ∧ Below T w wr) (fun i _ => s.size - (intOf i).toNat)
  case atStart => exact ⟨0, Nat.zero_le _, rfl, fun j hj => absurd hj (by omega), hI, Below.refl _ _⟩
  case round =>
    obtain ⟨k, hk, rfl, hall, hI, hB⟩ := hrel
    have HA : Hid (∀ j, j < k → tab (byt s j) = true) := hall
    clear hall
    have hl := byt_lt s k
    by_cases hlt : k < s.size
    · go_wp2_with fail
      rw [byt_eq hlt]
      refine (in_any T C _ (pre s k) tab _ (by omega) (by omega) hI (by rw [pre_len]; omega)).mono ?_
      rintro e w1 ⟨rfl, hI1, hB1⟩
      rw [← pre_succ] at hI1
      rw [Int.toNat_natCast]
      cases htb : tab (byt s k) with
      | true =>
        have HT : Hid (tab (byt s k) = true) := htb
        clear htb
        go_wp2
        go_roundw
        case rel =>
          refine ⟨k + 1, by omega, by go_num, fun j hj => ?_, hI1, hB.trans hB1⟩
          by_cases e : j = k
          · subst e; exact HT.out
          · exact HA.out j (by omega)
        case measure => simp [intOf]; omega
      | false =>
        have HT : Hid (tab (byt s k) = false) := htb
        clear htb
        go_wp2
        go_ret
        refine ⟨k, ⟨hk, HA.out, fun _ => HT.out⟩, ?_, ?_, hB.trans hB1⟩
        · rw [decide_eq_false (by omega)]; rfl
        · rw [if_pos hlt]; exact hI1
    · go_wp2
      go_ret
      have hke : k = s.size := by omega
      refine ⟨k, ⟨hk, HA.out, fun h => absurd h hlt⟩, ?_, ?_, hB⟩
      · have : (!s.toList.isEmpty) = decide (k = s.size ∧ 0 < s.size) := by
          rw [ByteArray.toList_eq, hke]
          have e : s.data.toList.length = s.size := by cases s; rfl
          cases hd : s.data.toList with
          | nil => rw [hd] at e; have e0 : s.size = 0 := e.symm; simp [e0]
          | cons x l => rw [hd] at e; have e0 : 0 < s.size := by rw [← e]; simp
                        simp [e0]
        rw [← this]; rfl
      · rw [if_neg hlt]; exact hI
end Go.Proofs.Ybulkdomm
