import Derived.Test.YbulkdoqgLow
import Derived.LaidEql
import Derived.Deep.RegionLaw
namespace Go.Proofs.Ybulkdoqg
open Go.RowKit

/-- Block b is a plain block of cells, none frozen. -/
def Plain (w : World) (b : Nat) : Prop := ∃ cs t, w.heap[b]? = some (.cells cs t (0, 0))

theorem equalIn_ptr (d : Nat) (a b : Nat) (w : World) (ha : Plain w a) (hb : Plain w b) (t e : TypeId) (j : TypeInfo) (hp : Yba.prog.underlying t = some (.pointer e)) (hte : Yba.prog.info? e = some j) (hsz : j.size ≠ 0) :
    (Op.equalIn (d + 1) t (.pointer (some ⟨a, 0, none⟩)) (.pointer (some ⟨b, 0, none⟩))).run Yba.prog w = .ok (a == b) w := by
  obtain ⟨ca, ta, ha⟩ := ha
  obtain ⟨cb, tb, hb⟩ := hb
  by_cases h : a = b
  · subst h
    simp [Op.equalIn, run_underlying hp, typeInfo, sizeOf, hte, run_sameAddr_same]
  · have := run_sameAddr_other (P := Yba.prog) w (a := ⟨a, 0, none⟩) (b := ⟨b, 0, none⟩) (by simp) ha hb
    rw [show (a == b) = false from beq_eq_false_iff_ne.2 h]
    simp [Op.equalIn, run_underlying hp, typeInfo, sizeOf, hte, hsz, this]

theorem eql_ptr (a b : Nat) (w : World) (ha : Plain w a) (hb : Plain w b) : (binOp .eql 30 (.pointer (some ⟨a, 0, none⟩)) (.pointer (some ⟨b, 0, none⟩))).run Yba.prog w = .ok (.bool (a == b)) w := by
  simp only [binOp]
  simp [Op.equal, Op.maxDepth, equalIn_ptr 9999 a b w ha hb 30 45 Yba.t45 Yba.underlying30 (by kernel_rfl) (by decide)]

theorem neq_ptr (a b : Nat) (w : World) (ha : Plain w a) (hb : Plain w b) : (binOp .neq 30 (.pointer (some ⟨a, 0, none⟩)) (.pointer (some ⟨b, 0, none⟩))).run Yba.prog w = .ok (.bool (!(a == b))) w := by
  simp only [binOp]
  simp [Op.equal, Op.maxDepth, equalIn_ptr 9999 a b w ha hb 30 45 Yba.t45 Yba.underlying30 (by kernel_rfl) (by decide)]

set_option maxRecDepth 100000 in
set_option maxHeartbeats 1000000 in
theorem Index_any (g n cap j : Nat) (o : Nat → Nat) (w : World) (hj : j < n) (hn : n ≤ 1048576) (hrow : ∀ i, i < n → w.cell? ⟨g, i, none⟩ = some (.pointer (some ⟨o i, 0, none⟩)))
    (hp : ∀ i, i < n → Plain w (o i)) (hne : ∀ i, i < j → o i ≠ o j) :
    Calls Yba.prog 8 #[.slice (some ⟨g, 0, none⟩) n cap, .pointer (some ⟨o j, 0, none⟩)] w fun e w' => e = .returned (.int .i64 j) ∧ w' = w := by
  have HR : Hid (∀ i, i < n → w.cell? ⟨g, i, none⟩ = some (.pointer (some ⟨o i, 0, none⟩))) := hrow
  have HP : Hid (∀ i, i < n → Plain w (o i)) := hp
  have HN : Hid (∀ i, i < j → o i ≠ o j) := hne
  clear hrow hp hne
  go_enter Yba.func8, Yba.ntmps8
  go_wp2
  go_loopw [8] (fun t wr => ∃ k : Nat, k ≤ j ∧ t = .int .i64 k ∧ w = wr) (fun t _ => n - (intOf t).toNat)
  case atStart => exact ⟨0, Nat.zero_le _, rfl, rfl⟩
  case round =>
    obtain ⟨k, hk, rfl, rfl⟩ := hrel
    have hc := HR.out k (by omega)
    have he := eql_ptr (o j) (o k) w (HP.out j hj) (HP.out k (by omega))
    by_cases hkj : k < j
    · have hb : (o j == o k) = false := beq_eq_false_iff_ne.2 (fun e => HN.out k hkj e.symm)
      rw [hb] at he
      clear hb
      go_wp2
      go_roundw
      case rel => exact ⟨k + 1, by omega, by go_num, trivial⟩
      case measure => simp [intOf]; omega
    · obtain rfl : k = j := by omega
      rw [beq_self_eq_true] at he
      go_wp2
      go_ret
      exact ⟨rfl, rfl⟩

/-- Cells laid over a list, one after the other. -/
def setL {α : Type} : List α → Nat → List α → List α
  | xs, _, [] => xs
  | xs, o, v :: r => setL (xs.set o v) (o + 1) r

theorem setL_length {α : Type} : ∀ (vs : List α) (xs : List α) (o : Nat), (setL xs o vs).length = xs.length
  | [], _, _ => rfl
  | v :: r, xs, o => by rw [setL, setL_length r]; simp

theorem setL_get {α : Type} : ∀ (vs : List α) (xs : List α) (o i : Nat), o + vs.length ≤ xs.length → (setL xs o vs)[i]? = if o ≤ i ∧ i < o + vs.length then vs[i - o]? else xs[i]?
  | [], xs, o, i, _ => by simp only [setL, List.length_nil]; rw [if_neg (by omega)]
  | v :: r, xs, o, i, h => by
    simp only [List.length_cons] at h
    rw [setL, setL_get r (xs.set o v) (o + 1) i (by simp; omega)]
    simp only [List.length_cons]
    by_cases h1 : o + 1 ≤ i ∧ i < o + 1 + r.length
    · rw [if_pos h1, if_pos (by omega), show i - o = (i - (o + 1)) + 1 by omega, List.getElem?_cons_succ]
    · rw [if_neg h1]
      by_cases h2 : i = o
      · subst h2; rw [if_pos (by omega), Nat.sub_self, List.getElem?_set]; simp; omega
      · rw [if_neg (by omega), List.getElem?_set, if_neg (by omega)]

theorem ownsRow_setCells {base : Nat} {e : TypeId} {g n cap : Nat} : ∀ (vs : List Value) (o : Nat) (xs : List Value) (w : World), w.ownsRow base e 1 (.slice (some ⟨g, 0, none⟩) n cap) n xs →
    (w.setCells g o vs).ownsRow base e 1 (.slice (some ⟨g, 0, none⟩) n cap) n (setL xs o vs) ∧ w.grownBy (w.setCells g o vs) (some g)
  | [], _, xs, w, h => ⟨h, ⟨rfl, rfl, rfl, Nat.le_refl _, fun _ _ _ => rfl⟩⟩
  | v :: r, o, xs, w, h => by
    obtain ⟨h1, g1⟩ := h.stored o v
    obtain ⟨h2, g2⟩ := ownsRow_setCells r (o + 1) (xs.set o v) _ h1
    exact ⟨h2, ⟨g2.os.trans g1.os, g2.tape.trans g1.tape, g2.output.trans g1.output, Nat.le_trans g1.size g2.size, fun k hk hne => (g2.block k (Nat.lt_of_lt_of_le hk g1.size) hne).trans (g1.block k hk hne)⟩⟩

theorem ownsRow_shrink {w : World} {base : Nat} {e : TypeId} {g n m cap : Nat} {xs : List Value} (h : w.ownsRow base e 1 (.slice (some ⟨g, 0, none⟩) n cap) n xs) (hm : m ≤ n) : w.ownsRow base e 1 (.slice (some ⟨g, 0, none⟩) m cap) m (xs.take m) := by
  obtain ⟨h1, h2⟩ := h
  rcases h2 with ⟨h0, _⟩ | ⟨g', cap', cur, hv, hg, hh, hn, hcap, hsz, htake⟩
  · cases h0
  · cases hv
    refine ⟨by simp [h1]; omega, .inr ⟨g, cap, cur, rfl, hg, hh, by omega, hcap, hsz, ?_⟩⟩
    rw [← htake, List.take_take, Nat.mul_one, Nat.mul_one, Nat.min_eq_left hm]

theorem erase_cells (xs : List Value) (n j : Nat) (u : Value) (hx : xs.length = n) (hj : j < n) : ((setL xs j (xs.drop (j + 1))).set (n - 1) u).take (n - 1) = xs.eraseIdx j := by
  apply List.ext_getElem?
  intro i
  rw [List.getElem?_take]
  by_cases hi : i < n - 1
  · rw [if_pos hi, List.getElem?_set, if_neg (by omega), setL_get _ _ _ _ (by simp; omega), List.getElem?_eraseIdx]
    simp only [List.length_drop]
    by_cases h : i < j
    · rw [if_neg (by omega), if_pos h]
    · rw [if_pos (by omega), if_neg h, List.getElem?_drop, show j + 1 + (i - j) = i + 1 by omega]
  · rw [if_neg hi, List.getElem?_eq_none]
    rw [List.length_eraseIdx, if_pos (by omega)]; omega

theorem Yba.info30 : (Yba.prog.info? 30).map (fun i => (i.zero, i.size, i.bytes)) = some (some (.pointer none), 1, 8) := by kernel_rfl
theorem Yba.info50 : (Yba.prog.info? 50).map (fun i => (i.zero, i.size, i.bytes)) = some (some (.pointer none), 1, 8) := by kernel_rfl

theorem ownsRow_cap {w : World} {base : Nat} {e : TypeId} {g n cap : Nat} {xs : List Value} (h : w.ownsRow base e 1 (.slice (some ⟨g, 0, none⟩) n cap) n xs) : xs.length = n ∧ n ≤ cap ∧ cap ≤ maxLen := by
  obtain ⟨h1, h2⟩ := h
  rcases h2 with ⟨h0, _⟩ | ⟨g', cap', cur, hv, hg, hh, hn, hcap, hsz, htake⟩
  · cases h0
  · cases hv
    exact ⟨by omega, hn, hcap⟩

theorem clear_one29 (g k c : Nat) (W : World) (hc : (W.cell? ⟨g, k, none⟩).isSome = true) (hf : W.frozen? ⟨g, k, none⟩ = false) :
    (Builtin.clear_ #[29] 0 #[.slice (some ⟨g, k, none⟩) 1 c]).run Yba.prog W = .ok (.tuple #[]) (W.setCell ⟨g, k, none⟩ (.pointer none)) := by
  have hst := run_storeCells_cells (P := Yba.prog) g k [.pointer none] 0 W (by intro j hj; simp at hj; subst hj; simpa using hc) (by intro j hj; simp at hj; subst hj; simpa using hf) (by simp [Value.oneCell'])
  simp only [Nat.add_zero, World.setCells] at hst
  simp [Builtin.clear_, run_underlying Yba.underlying29, Builtin.zeroCells, Value.cells, hst]

theorem clear_one26 (g k c : Nat) (W : World) (hc : (W.cell? ⟨g, k, none⟩).isSome = true) (hf : W.frozen? ⟨g, k, none⟩ = false) :
    (Builtin.clear_ #[26] 0 #[.slice (some ⟨g, k, none⟩) 1 c]).run Yba.prog W = .ok (.tuple #[]) (W.setCell ⟨g, k, none⟩ (.pointer none)) := by
  have hst := run_storeCells_cells (P := Yba.prog) g k [.pointer none] 0 W (by intro j hj; simp at hj; subst hj; simpa using hc) (by intro j hj; simp at hj; subst hj; simpa using hf) (by simp [Value.oneCell'])
  simp only [Nat.add_zero, World.setCells] at hst
  simp [Builtin.clear_, run_underlying Yba.underlying26, Builtin.zeroCells, Value.cells, hst]

set_option maxRecDepth 1000000 in
set_option maxHeartbeats 1600000 in
theorem DeleteO_any (base g n cap j : Nat) (xs : List Value) (w : World) (hj : j < n) (hone : ∀ u ∈ xs, u.oneCell' = true)
    (hown : w.ownsRow base 30 1 (.slice (some ⟨g, 0, none⟩) n cap) n xs) :
    Calls Yba.prog 9 #[.slice (some ⟨g, 0, none⟩) n cap, .int .i64 j, .int .i64 ((j : Int) + 1)] w fun e w' =>
      e = .returned (.slice (some ⟨g, 0, none⟩) (n - 1) cap) ∧ w'.ownsRow base 30 1 (.slice (some ⟨g, 0, none⟩) (n - 1) cap) (n - 1) (xs.eraseIdx j) ∧ w.grownBy w' (some g) := by
  obtain ⟨i0, hi0, hz0, hz1, hz2⟩ := info_parts Yba.info30
  obtain ⟨hx, hnc, hcm⟩ := ownsRow_cap hown
  unfold maxLen at hcm
  obtain ⟨A, hA, hnews⟩ : ∃ A : Addr, (if cap = j + 1 then some (⟨g, 0, none⟩ : Addr) else some ⟨g, j + 1, none⟩) = some A ∧ Hid (∀ i u, (xs.drop (j + 1))[i]? = some u → w.drew.cell? (A.add i) = some u) := by
    by_cases h : cap = j + 1
    · refine ⟨⟨g, 0, none⟩, by simp [h], fun i u hu => ?_⟩
      rw [List.drop_eq_nil_of_le (by omega)] at hu
      simp at hu
    · refine ⟨⟨g, j + 1, none⟩, by simp [h], fun i u hu => ?_⟩
      rw [List.getElem?_drop] at hu
      have hi : j + 1 + i < xs.length := (List.getElem?_eq_some_iff.1 hu).1
      rw [Addr.add_lit]
      exact (hown.cellAt (j + 1 + i) (by omega)).trans hu
  have s1 : Hid ((xs.drop (j + 1)).length = (n - (j + 1)) * 1) := by rw [Nat.mul_one, List.length_drop, hx]; trivial
  have s2 : Hid (∀ u ∈ xs.drop (j + 1), u.oneCell' = true) := fun u hu => hone u (List.mem_of_mem_drop hu)
  have s3 : Hid (∀ i, i < (xs.drop (j + 1)).length → (w.drew.cell? ⟨g, 0 + j * 1 + i, none⟩).isSome = true ∧ w.drew.frozen? ⟨g, 0 + j * 1 + i, none⟩ = false) := by
    intro i hi
    simp only [List.length_drop] at hi
    rw [show 0 + j * 1 + i = j + i by omega]
    refine ⟨?_, hown.frozenAt _⟩
    show (w.cell? _).isSome = true
    rw [hown.cellAt (j + i) (by omega), List.getElem?_eq_getElem (by omega)]; rfl
  have hwr : IntKind.i64.wrap ((j : Int) + 1) = (j : Int) + 1 := by rw [IntKind.wrap_i64]; omega
  have hp0 : (0 : Int) ≤ (j : Int) + 1 := by omega
  have hp1 : (j : Int) + 1 ≤ (n : Int) := by omega
  have hp2 : ((j : Int) + 1).toNat = j + 1 := by omega
  have hp3 : ((j : Int) == (j : Int) + 1) = false := beq_eq_false_iff_ne.2 (by omega)
  have hic : j ≤ cap := by omega
  have HO : Hid (w.ownsRow base 30 1 (.slice (some ⟨g, 0, none⟩) n cap) n xs) := hown
  clear hone hown
  go_enter Yba.func9, Yba.ntmps9
  go_wp2_with fail
  go_region_law (refine step_append_room rfl (.tmp 22) (.tmp 25) 29 rfl 30 i0 1 Yba.underlying29 hi0 hz1 g 0 j cap (by simp [Act.eval, Act.put]) A (n - (j + 1)) (cap - (j + 1)) (xs.drop (j + 1)) (by simp [Act.eval, Act.put]) s1.out hnews.out s2.out (by omega) s3.out ?_)
  go_wp2
  have e1 : j + (n - (j + 1)) = n - 1 := by omega
  have e2 : n - (n - 1) = 1 := by omega
  obtain ⟨hown1, hgr1⟩ := ownsRow_setCells (xs.drop (j + 1)) j xs w.drew (base := base) (e := 30) (g := g) (n := n) (cap := cap) HO.out
  rw [e1, e2, clear_one29 g (n - 1) _ _ (by rw [hown1.cellAt _ (by omega), List.getElem?_eq_getElem (by rw [setL_length]; omega)]; rfl) (hown1.frozenAt _)]
  obtain ⟨hown2, hgr2⟩ := hown1.stored (n - 1) (.pointer none)
  have hown3 := ownsRow_shrink hown2 (show n - 1 ≤ n by omega)
  rw [erase_cells xs n j _ hx hj] at hown3
  have hgr : w.grownBy ((w.drew.setCells g j (xs.drop (j + 1))).setCell ⟨g, n - 1, none⟩ (.pointer none)) (some g) :=
    ⟨hgr2.os.trans hgr1.os, hgr2.tape.trans hgr1.tape, hgr2.output.trans hgr1.output, Nat.le_trans hgr1.size hgr2.size, fun k hk hne => (hgr2.block k (Nat.lt_of_lt_of_le hk hgr1.size) hne).trans (hgr1.block k hk hne)⟩
  have HF : Hid (_ ∧ _) := ⟨hown3, hgr⟩
  clear hown1 hown2 hown3 hgr1 hgr2 hgr e1 e2
  go_wp2
  go_ret
  exact ⟨rfl, HF.out⟩

set_option maxRecDepth 1000000 in
set_option maxHeartbeats 1600000 in
theorem DeleteL_any (base g n cap j : Nat) (xs : List Value) (w : World) (hj : j < n) (hone : ∀ u ∈ xs, u.oneCell' = true)
    (hown : w.ownsRow base 50 1 (.slice (some ⟨g, 0, none⟩) n cap) n xs) :
    Calls Yba.prog 10 #[.slice (some ⟨g, 0, none⟩) n cap, .int .i64 j, .int .i64 ((j : Int) + 1)] w fun e w' =>
      e = .returned (.slice (some ⟨g, 0, none⟩) (n - 1) cap) ∧ w'.ownsRow base 50 1 (.slice (some ⟨g, 0, none⟩) (n - 1) cap) (n - 1) (xs.eraseIdx j) ∧ w.grownBy w' (some g) := by
  obtain ⟨i0, hi0, hz0, hz1, hz2⟩ := info_parts Yba.info50
  obtain ⟨hx, hnc, hcm⟩ := ownsRow_cap hown
  unfold maxLen at hcm
  obtain ⟨A, hA, hnews⟩ : ∃ A : Addr, (if cap = j + 1 then some (⟨g, 0, none⟩ : Addr) else some ⟨g, j + 1, none⟩) = some A ∧ Hid (∀ i u, (xs.drop (j + 1))[i]? = some u → w.drew.cell? (A.add i) = some u) := by
    by_cases h : cap = j + 1
    · refine ⟨⟨g, 0, none⟩, by simp [h], fun i u hu => ?_⟩
      rw [List.drop_eq_nil_of_le (by omega)] at hu
      simp at hu
    · refine ⟨⟨g, j + 1, none⟩, by simp [h], fun i u hu => ?_⟩
      rw [List.getElem?_drop] at hu
      have hi : j + 1 + i < xs.length := (List.getElem?_eq_some_iff.1 hu).1
      rw [Addr.add_lit]
      exact (hown.cellAt (j + 1 + i) (by omega)).trans hu
  have s1 : Hid ((xs.drop (j + 1)).length = (n - (j + 1)) * 1) := by rw [Nat.mul_one, List.length_drop, hx]; trivial
  have s2 : Hid (∀ u ∈ xs.drop (j + 1), u.oneCell' = true) := fun u hu => hone u (List.mem_of_mem_drop hu)
  have s3 : Hid (∀ i, i < (xs.drop (j + 1)).length → (w.drew.cell? ⟨g, 0 + j * 1 + i, none⟩).isSome = true ∧ w.drew.frozen? ⟨g, 0 + j * 1 + i, none⟩ = false) := by
    intro i hi
    simp only [List.length_drop] at hi
    rw [show 0 + j * 1 + i = j + i by omega]
    refine ⟨?_, hown.frozenAt _⟩
    show (w.cell? _).isSome = true
    rw [hown.cellAt (j + i) (by omega), List.getElem?_eq_getElem (by omega)]; rfl
  have hwr : IntKind.i64.wrap ((j : Int) + 1) = (j : Int) + 1 := by rw [IntKind.wrap_i64]; omega
  have hp0 : (0 : Int) ≤ (j : Int) + 1 := by omega
  have hp1 : (j : Int) + 1 ≤ (n : Int) := by omega
  have hp2 : ((j : Int) + 1).toNat = j + 1 := by omega
  have hp3 : ((j : Int) == (j : Int) + 1) = false := beq_eq_false_iff_ne.2 (by omega)
  have hic : j ≤ cap := by omega
  have HO : Hid (w.ownsRow base 50 1 (.slice (some ⟨g, 0, none⟩) n cap) n xs) := hown
  clear hone hown
  go_enter Yba.func10, Yba.ntmps10
  go_wp2_with fail
  go_region_law (refine step_append_room rfl (.tmp 22) (.tmp 25) 26 rfl 50 i0 1 Yba.underlying26 hi0 hz1 g 0 j cap (by simp [Act.eval, Act.put]) A (n - (j + 1)) (cap - (j + 1)) (xs.drop (j + 1)) (by simp [Act.eval, Act.put]) s1.out hnews.out s2.out (by omega) s3.out ?_)
  go_wp2
  have e1 : j + (n - (j + 1)) = n - 1 := by omega
  have e2 : n - (n - 1) = 1 := by omega
  obtain ⟨hown1, hgr1⟩ := ownsRow_setCells (xs.drop (j + 1)) j xs w.drew (base := base) (e := 50) (g := g) (n := n) (cap := cap) HO.out
  rw [e1, e2, clear_one26 g (n - 1) _ _ (by rw [hown1.cellAt _ (by omega), List.getElem?_eq_getElem (by rw [setL_length]; omega)]; rfl) (hown1.frozenAt _)]
  obtain ⟨hown2, hgr2⟩ := hown1.stored (n - 1) (.pointer none)
  have hown3 := ownsRow_shrink hown2 (show n - 1 ≤ n by omega)
  rw [erase_cells xs n j _ hx hj] at hown3
  have hgr : w.grownBy ((w.drew.setCells g j (xs.drop (j + 1))).setCell ⟨g, n - 1, none⟩ (.pointer none)) (some g) :=
    ⟨hgr2.os.trans hgr1.os, hgr2.tape.trans hgr1.tape, hgr2.output.trans hgr1.output, Nat.le_trans hgr1.size hgr2.size, fun k hk hne => (hgr2.block k (Nat.lt_of_lt_of_le hk hgr1.size) hne).trans (hgr1.block k hk hne)⟩
  have HF : Hid (_ ∧ _) := ⟨hown3, hgr⟩
  clear hown1 hown2 hown3 hgr1 hgr2 hgr e1 e2
  go_wp2
  go_ret
  exact ⟨rfl, HF.out⟩
end Go.Proofs.Ybulkdoqg
