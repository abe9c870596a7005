import Derived.Test.YbulkdoqgRows
import Derived.WalkKit
import Derived.WalkSpells
import Derived.WalkLawsBesides
import Derived.Deep.LoopGhost
import Derived.Deep.RegionHeld3
import Derived.BigQuiet
namespace Go.Proofs.Ybulkdoqg
open Go.RowKit

/-- cmp.Compare on integers. -/
def cmpI (x y : Int) : Int := if x < y then -1 else if y < x then 1 else 0

set_option maxHeartbeats 400000 in
theorem isNaN_any (x : Int) (w : World) : Calls Yba.prog 16 #[.int .i64 x] w fun e w' => e = .returned (.bool false) ∧ w' = w := by
  go_enter Yba.func16, Yba.ntmps16
  go_wp2
  go_ret
  exact ⟨by simp, rfl⟩

set_option maxHeartbeats 400000 in
theorem compare_any (x y : Int) (w : World) : Calls Yba.prog 15 #[.int .i64 x, .int .i64 y] w fun e w' => e = .returned (.int .i64 (cmpI x y)) ∧ w' = w := by
  go_enter Yba.func15, Yba.ntmps15
  go_wp2_with (go_at_call 16; refine (isNaN_any _ _).mono ?_; rintro e w' ⟨rfl, rfl⟩)
  all_goals go_ret
  all_goals refine ⟨?_, rfl⟩
  · unfold cmpI; rw [if_pos ‹_›]; rfl
  · unfold cmpI; rw [if_neg (by omega), if_pos ‹_›]; rfl
  · unfold cmpI; rw [if_neg (by omega), if_neg (by omega)]; rfl

set_option maxHeartbeats 400000 in
theorem cmp_any (x y : Int) (w : World) : Calls Yba.prog 14 #[.agg #[.int .i64 x], .agg #[.int .i64 y]] w fun e w' => e = .returned (.int .i64 (cmpI x y)) ∧ Below w.heap.size w w' := by
  go_enter Yba.func14, Yba.ntmps14
  go_wp2_with (go_at_call 15; refine (compare_any _ _ _).mono ?_; rintro e w' ⟨rfl, rfl⟩)
  go_ret
  exact ⟨rfl, ((Below.refl _ _).alloc (Nat.le_refl _) _).alloc (by simp) _⟩

/-- 'a' comes before 'b' in a side's levels (worst first). -/
def wrs (side a b : Int) : Bool := if side == 1 then decide (a < b) else decide (b < a)

theorem cmpI_pos (a b : Int) : decide (0 < cmpI a b) = decide (b < a) := by
  unfold cmpI; by_cases h1 : a < b
  · rw [if_pos h1]; simp; omega
  · by_cases h2 : b < a
    · rw [if_neg h1, if_pos h2]; simp [h2]
    · rw [if_neg h1, if_neg h2]; simp [h2]
theorem cmpI_neg (a b : Int) : decide (cmpI a b < 0) = decide (a < b) := by
  unfold cmpI; by_cases h1 : a < b
  · rw [if_pos h1]; simp [h1]
  · by_cases h2 : b < a
    · rw [if_neg h1, if_pos h2]; simp [h1]
    · rw [if_neg h1, if_neg h2]; simp [h1]

set_option maxHeartbeats 400000 in
theorem better_any (S : Nat) (side a b : Int) (w : World) (hS : w.cell? ⟨S, 0, none⟩ = some (.int .u8 side)) :
    Calls Yba.prog 13 #[.pointer (some ⟨S, 0, none⟩), .agg #[.int .i64 a], .agg #[.int .i64 b]] w fun e w' => e = .returned (.bool (wrs side b a)) ∧ Below w.heap.size w w' := by
  have lS := World.block_lt_of_cell? w _ hS
  cases hsd : (side == 1)
  all_goals
    go_enter Yba.func13, Yba.ntmps13
    go_wp2_with fail
    refine (cmp_any _ _ _).mono ?_
    rintro e w1 ⟨rfl, hb⟩
    go_wp2
    go_ret
    refine ⟨?_, ?_⟩
    · unfold wrs; rw [hsd]; first | (rw [← cmpI_pos a b]; rfl) | (rw [← cmpI_neg a b]; rfl)
    · exact (((Below.refl _ _).alloc (Nat.le_refl _) _).alloc (by simp) _).trans (hb.mono (by simp; omega))

set_option maxRecDepth 100000 in
set_option maxHeartbeats 1000000 in
theorem pred_any (b1 b2 S g L n cap i : Nat) (side price q : Int) (w : World) (h1 : w.cell? ⟨b1, 0, none⟩ = some (.pointer (some ⟨S, 0, none⟩))) (h2 : w.cell? ⟨b2, 0, none⟩ = some (.int .i64 price))
    (hS0 : w.cell? ⟨S, 0, none⟩ = some (.int .u8 side)) (hS1 : w.cell? ⟨S, 1, none⟩ = some (.slice (some ⟨g, 0, none⟩) n cap)) (hi : i < n)
    (hg : w.cell? ⟨g, i, none⟩ = some (.pointer (some ⟨L, 0, none⟩))) (hL : w.cell? ⟨L, 0, none⟩ = some (.int .i64 q)) :
    Calls Yba.prog 12 #[.int .i64 i, .pointer (some ⟨b1, 0, none⟩), .pointer (some ⟨b2, 0, none⟩)] w fun e w' => e = .returned (.bool (!(wrs side q price))) ∧ Below w.heap.size w w' := by
  have hi0 : (0 : Int) ≤ (i : Int) := Int.natCast_nonneg _
  have hi1 : (i : Int) < (n : Int) := by omega
  have l1 := World.block_lt_of_cell? w _ h1
  have l2 := World.block_lt_of_cell? w _ h2
  have l3 := World.block_lt_of_cell? w _ hS1
  have l4 := World.block_lt_of_cell? w _ hg
  have l5 := World.block_lt_of_cell? w _ hL
  go_enter Yba.func12, Yba.ntmps12
  go_wp2_with fail
  go_region_held3 (fun w' => w'.cell? ⟨b1, 0, none⟩ = some (.pointer (some ⟨S, 0, none⟩)) ∧ w'.cell? ⟨b2, 0, none⟩ = some (.int .i64 price) ∧ w'.cell? ⟨S, 1, none⟩ = some (.slice (some ⟨g, 0, none⟩) n cap) ∧
      w'.cell? ⟨g, i, none⟩ = some (.pointer (some ⟨L, 0, none⟩)) ∧ w'.cell? ⟨L, 0, none⟩ = some (.int .i64 q))
    (first | go_keep | (go_split_ands; refine ⟨?_, ?_, ?_, ?_, ?_⟩ <;> (refine (hb.cell ?_).trans ?_ <;> first | assumption | (simp; done) | (simp; assumption))))
    ((go_at_call 13; refine (better_any S side _ _ _ (by simpa using hS0)).mono ?_; rintro e w1 ⟨rfl, hb⟩))
  go_wp2
  go_ret
  exact ⟨rfl, ⟨hb.os, hb.tape, hb.output, hb.size, hb.block⟩⟩

/-- What the search reads: a side's levels, n of them: level i in block 'L i', its price 'q i'. -/
structure Levels (w : World) (S : Nat) (side : Int) (ga : Option Addr) (n cap : Nat) (L : Nat → Nat) (q : Nat → Int) : Prop where
  side : w.cell? ⟨S, 0, none⟩ = some (.int .u8 side)
  lvs : w.cell? ⟨S, 1, none⟩ = some (.slice ga n cap)
  row : ∀ i, i < n → ∃ g, ga = some ⟨g, 0, none⟩ ∧ w.cell? ⟨g, i, none⟩ = some (.pointer (some ⟨L i, 0, none⟩))
  lv : ∀ i, i < n → w.cell? ⟨L i, 0, none⟩ = some (.int .i64 (q i))

theorem Levels.below {w w' : World} {S : Nat} {side : Int} {ga : Option Addr} {n cap : Nat} {L : Nat → Nat} {q : Nat → Int} (h : Levels w S side ga n cap L q) (hb : Below w.heap.size w w') : Levels w' S side ga n cap L q := by
  refine ⟨(hb.cell (World.block_lt_of_cell? w _ h.side)).trans h.side, (hb.cell (World.block_lt_of_cell? w _ h.lvs)).trans h.lvs, fun i hi => ?_, fun i hi => (hb.cell (World.block_lt_of_cell? w _ (h.lv i hi))).trans (h.lv i hi)⟩
  obtain ⟨g, e, hc⟩ := h.row i hi
  exact ⟨g, e, (hb.cell (World.block_lt_of_cell? w _ hc)).trans hc⟩

/-- r is the first level whose price is at least as good. -/
structure First (side price : Int) (n : Nat) (q : Nat → Int) (r : Nat) : Prop where
  le : r ≤ n
  before : ∀ i, i < r → wrs side (q i) price = true
  behind : ∀ i, r ≤ i → i < n → wrs side (q i) price = false

theorem cell_below {w w' : World} (hb : Below w.heap.size w w') {a : Addr} {v : Value} (h : w.cell? a = some v) : w'.cell? a = some v :=
  (hb.cell (World.block_lt_of_cell? w _ h)).trans h

set_option maxRecDepth 100000 in
set_option maxHeartbeats 1000000 in
theorem Search_any (b1 b2 S n cap : Nat) (side price : Int) (ga : Option Addr) (L : Nat → Nat) (q : Nat → Int) (w : World) (h1 : w.cell? ⟨b1, 0, none⟩ = some (.pointer (some ⟨S, 0, none⟩))) (h2 : w.cell? ⟨b2, 0, none⟩ = some (.int .i64 price))
    (hv : Levels w S side ga n cap L q) (hn : n ≤ 1048576) (hmono : ∀ i j, i ≤ j → j < n → wrs side (q i) price = false → wrs side (q j) price = false) :
    Calls Yba.prog 11 #[.int .i64 n, .func (.func 12) #[] #[.pointer (some ⟨b1, 0, none⟩), .pointer (some ⟨b2, 0, none⟩)]] w fun e w' => ∃ r : Nat, e = .returned (.int .i64 r) ∧ First side price n q r ∧ Below w.heap.size w w' := by
  have HM : Hid (∀ i j, i ≤ j → j < n → wrs side (q i) price = false → wrs side (q j) price = false) := hmono
  clear hmono
  go_enter Yba.func11, Yba.ntmps11
  go_wp2
  go_loopw [5, 6] (fun i j wr => ∃ lo hi : Nat, lo ≤ hi ∧ hi ≤ n ∧ i = .int .i64 lo ∧ j = .int .i64 hi ∧ (∀ i, i < lo → wrs side (q i) price = true) ∧ (∀ i, hi ≤ i → i < n → wrs side (q i) price = false) ∧ Below w.heap.size w wr) (fun i j _ => (intOf j - intOf i).toNat)
  case atStart => exact ⟨0, n, Nat.zero_le _, Nat.le_refl _, rfl, rfl, fun i hi => absurd hi (by omega), fun i h h' => absurd h (by omega), Below.refl _ _⟩
  case round =>
    obtain ⟨lo, hi, hlh, hhn, rfl, rfl, hlo, hhi, hB⟩ := hrel
    have HLO : Hid (∀ i, i < lo → wrs side (q i) price = true) := hlo
    have HHI : Hid (∀ i, hi ≤ i → i < n → wrs side (q i) price = false) := hhi
    clear hlo hhi
    by_cases hlt : lo < hi
    · go_wp2_with fail
      obtain ⟨m, hm, hm1, hm2⟩ : ∃ m : Nat, ((lo : Int) + (hi : Int)) / 2 = (m : Int) ∧ lo ≤ m ∧ m < hi := ⟨(lo + hi) / 2, by omega, by omega, by omega⟩
      rw [hm]
      clear hm
      have hv' := hv.below hB
      obtain ⟨g, rfl, hg⟩ := hv'.row m (by omega)
      refine (pred_any b1 b2 S g (L m) n cap m side price (q m) wr (cell_below hB h1) (cell_below hB h2) hv'.side hv'.lvs (by omega) hg (hv'.lv m (by omega))).mono ?_
      rintro e w1 ⟨rfl, hB1⟩
      replace hB1 : Below w.heap.size w w1 := hB.trans (hB1.mono hB.size)
      clear hv' hg hB
      cases hw : wrs side (q m) price with
      | true =>
        have HW : Hid (wrs side (q m) price = true) := hw
        clear hw
        go_wp2
        go_roundw
        case rel =>
          refine ⟨m + 1, hi, by omega, by omega, by go_num, rfl, fun i h => ?_, HHI.out, hB1⟩
          cases hx : wrs side (q i) price with
          | true => rfl
          | false => have := HM.out i m (by omega) (by omega) hx; rw [HW.out] at this; cases this
        case measure => simp [intOf]; omega
      | false =>
        have HW : Hid (wrs side (q m) price = false) := hw
        clear hw
        go_wp2
        go_roundw
        case rel => exact ⟨lo, m, by omega, by omega, rfl, rfl, HLO.out, fun i h h' => HM.out m i h h' HW.out, hB1⟩
        case measure => simp [intOf]; omega
    · go_wp2
      go_ret
      have e : hi = lo := by omega
      exact ⟨lo, rfl, ⟨by omega, HLO.out, by rw [← e]; exact HHI.out⟩, hB⟩

set_option maxRecDepth 100000 in
set_option maxHeartbeats 1000000 in
theorem search_any (S n cap : Nat) (side price : Int) (ga : Option Addr) (L : Nat → Nat) (q : Nat → Int) (w : World)
    (hv : Levels w S side ga n cap L q) (hn : n ≤ 1048576) (hmono : ∀ i j, i ≤ j → j < n → wrs side (q i) price = false → wrs side (q j) price = false) :
    Calls Yba.prog 7 #[.pointer (some ⟨S, 0, none⟩), .agg #[.int .i64 price]] w fun e w' => ∃ r : Nat, e = .returned (.int .i64 r) ∧ First side price n q r ∧ Below w.heap.size w w' := by
  have HM : Hid (∀ i j, i ≤ j → j < n → wrs side (q i) price = false → wrs side (q j) price = false) := hmono
  clear hmono
  have hB : Below w.heap.size w ((w.alloc (.cells #[.pointer (some ⟨S, 0, none⟩)] 25)).alloc (.cells #[.int .i64 price] 34)) := ((Below.refl _ _).alloc (Nat.le_refl _) _).alloc (by simp) _
  have c1 := hv.lvs
  have l1 := World.block_lt_of_cell? w _ c1
  go_enter Yba.func7, Yba.ntmps7
  go_wp2_with fail
  refine (Search_any w.heap.size (w.heap.size + 1) S n cap side price ga L q _ ?_ ?_ (hv.below hB) hn HM.out).mono ?_
  · simp
  · simp
  rintro e w1 ⟨r, rfl, hF, hB1⟩
  go_wp2
  go_ret
  exact ⟨r, rfl, hF, hB.trans (hB1.mono hB.size)⟩
end Go.Proofs.Ybulkdoqg
