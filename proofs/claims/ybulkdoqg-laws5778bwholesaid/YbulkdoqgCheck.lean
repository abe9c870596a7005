import Derived.Test.YbulkdoqgLaid
import Derived.BigQuiet
namespace Go.Proofs.Ybulkdoqg
open Go.RowKit
set_option linter.unusedSimpArgs false

theorem Left.of_below {base O S n : Nat} {side : Int} {P : Nat → Int} {w wr wr' : World} {T : Nat} {Ob : Nat → Nat} {lvs : List Lv} (h : Left base O S n side P w T Ob lvs wr) (hb : Below wr.heap.size wr wr') : Left base O S n side P w T Ob lvs wr' := by
  obtain ⟨v, hB⟩ := h.book
  obtain ⟨xs, hown, hxs⟩ := h.arr
  have hlt : base ≤ wr.heap.size := Nat.le_trans hB.geS (Nat.le_of_lt (lt_of_block hB.top))
  refine ⟨⟨v, hB.below hb⟩, h.good, fun m hm => (h.ord m hm).below hb, ⟨xs, ownsRow_of hown (fun g hg => ?_), hxs⟩, h.below.trans (hb.mono hlt)⟩
  obtain ⟨_, cs, hc⟩ := ownsRow_tag hown hg
  exact hb.block g (lt_of_block hc)

set_option maxHeartbeats 400000 in
theorem worse_any (side a b : Int) (w : World) : Calls Yba.prog 6 #[.int .u8 side, .int .i64 a, .int .i64 b] w fun e w' => e = .returned (.bool (wrs side a b)) ∧ w' = w := by
  cases hsd : (side == 1)
  all_goals
    go_enter Yba.func6, Yba.ntmps6
    go_wp2
    go_ret
    exact ⟨by unfold wrs; rw [hsd]; rfl, rfl⟩

/-- the insertion of x: A and Bq lie sorted around its hole -/
structure Ins (side : Int) (L : List Int) (a j : Nat) (A Bq C : List Int) (x : Int) : Prop where
  alen : A.length = j
  blen : j + Bq.length = a
  sorted : (A ++ Bq).Pairwise (fun u v => wrs side u v = true)
  behind : ∀ y ∈ Bq, wrs side x y = true
  perm : (A ++ x :: (Bq ++ C)).Perm L

theorem Ins.len {side : Int} {L : List Int} {a j : Nat} {A Bq C : List Int} {x : Int} (h : Ins side L a j A Bq C x) : a < L.length := by
  have h1 := h.perm.length_eq
  have h2 := h.alen
  have h3 := h.blen
  simp at h1; omega

/-- the first a places lie sorted -/
structure Srt (side : Int) (L M : List Int) (a : Nat) : Prop where
  perm : M.Perm L
  sorted : (M.take a).Pairwise (fun u v => wrs side u v = true)

theorem swap_list {α : Type} (A' R : List α) (x y : α) : ((A' ++ [y]) ++ x :: R).set (A'.length + 1) y = (A' ++ [y]) ++ y :: R ∧ ((A' ++ [y]) ++ y :: R).set A'.length x = A' ++ x :: (y :: R) := by
  constructor
  · rw [List.set_append_right _ _ (by simp)]; simp
  · rw [List.append_assoc, List.set_append_right _ _ (by simp)]; simp

theorem ins_cells {w : World} {B g n cap : Nat} {A' R : List Int} {x y : Int} (h : w.ownsRow B 2 1 (.slice (some ⟨g, 0, none⟩) n cap) n (((A' ++ [y]) ++ x :: R).map (Value.int .i64))) :
    w.cell? ⟨g, A'.length, none⟩ = some (.int .i64 y) ∧ w.cell? ⟨g, A'.length + 1, none⟩ = some (.int .i64 x) ∧ (w.frozen? ⟨g, A'.length, none⟩ = false) ∧ w.frozen? ⟨g, A'.length + 1, none⟩ = false := by
  have hl := h.1
  simp at hl
  refine ⟨?_, ?_, h.frozenAt _, h.frozenAt _⟩
  · rw [h.cellAt _ (by omega)]; simp
  · rw [h.cellAt _ (by omega)]; simp

theorem ins_swap {w : World} {B g n cap : Nat} {A' R : List Int} {x y : Int} (h : w.ownsRow B 2 1 (.slice (some ⟨g, 0, none⟩) n cap) n (((A' ++ [y]) ++ x :: R).map (Value.int .i64))) :
    ((w.setCell ⟨g, A'.length + 1, none⟩ (.int .i64 y)).setCell ⟨g, A'.length, none⟩ (.int .i64 x)).ownsRow B 2 1 (.slice (some ⟨g, 0, none⟩) n cap) n ((A' ++ x :: (y :: R)).map (Value.int .i64)) := by
  have h1 := (h.stored (A'.length + 1) (.int .i64 y)).1
  have h2 := (h1.stored A'.length (.int .i64 x)).1
  have e := swap_list A' R x y
  rw [← List.map_set, e.1, ← List.map_set, e.2] at h2
  exact h2

theorem ownsRow_drewN {w : World} {base : Nat} {e : TypeId} {v : Value} {n : Nat} {xs : List Value} (h : w.ownsRow base e 1 v n xs) (q : Nat) : (w.drewN q).ownsRow base e 1 v n xs := ownsRow_of h (fun _ _ => rfl)

theorem Srt.start (side : Int) (L : List Int) : Srt side L L 1 := ⟨List.Perm.refl _, by cases L <;> simp⟩
theorem Srt.begins {side : Int} {L M : List Int} {a : Nat} (h : Srt side L M a) (ha : a < M.length) : Ins side L a a (M.take a) [] (M.drop (a + 1)) M[a] := by
  refine ⟨by simp; omega, by simp, by simpa using h.sorted, fun y hy => by simp at hy, ?_⟩
  have e : M.take a ++ M[a] :: ([] ++ M.drop (a + 1)) = M := by
    simp
  rw [e]; exact h.perm

theorem Ins.swap {side : Int} {L : List Int} {a j : Nat} {A' Bq C : List Int} {x y : Int} (h : Ins side L a (j + 1) (A' ++ [y]) Bq C x) (hw : wrs side x y = true) : Ins side L a j A' (y :: Bq) C x := by
  have h1 := h.alen
  have h2 := h.blen
  refine ⟨by simpa using h1, by simp; omega, by simpa using h.sorted, fun z hz => ?_, ?_⟩
  · rcases List.mem_cons.1 hz with rfl | hz
    · exact hw
    · exact h.behind z hz
  · refine List.Perm.trans ?_ h.perm
    simp only [List.append_assoc, List.cons_append, List.nil_append]
    exact List.Perm.append_left _ (List.Perm.swap _ _ _)

theorem Ins.close {side : Int} {L : List Int} {a j : Nat} {A Bq C : List Int} {x : Int} (h : Ins side L a j A Bq C x) (hnd : L.Nodup) (hstop : ∀ A' y, A = A' ++ [y] → wrs side x y = false) : Srt side L (A ++ x :: (Bq ++ C)) (a + 1) := by
  have h1 := h.alen
  have h2 := h.blen
  have hnd2 : (A ++ x :: (Bq ++ C)).Nodup := h.perm.nodup_iff.2 hnd
  refine ⟨h.perm, ?_⟩
  have e : (A ++ x :: (Bq ++ C)).take (a + 1) = A ++ x :: Bq := by
    rw [show A ++ x :: (Bq ++ C) = (A ++ x :: Bq) ++ C by simp, List.take_append_of_le_length (by simp; omega)]
    exact List.take_of_length_le (by simp; omega)
  rw [e]
  obtain ⟨s1, s2, s3⟩ := List.pairwise_append.1 h.sorted
  have hAx : ∀ u ∈ A, wrs side u x = true := by
    rcases List.eq_nil_or_concat A with rfl | ⟨A', y, rfl⟩
    · intro u hu; simp at hu
    · have hy : wrs side y x = true := by
        refine wrs_total (hstop A' y (by simp)) (fun e => ?_)
        subst e
        have := (List.nodup_append.1 hnd2).2.2 x (by simp) x (by simp)
        exact this rfl
      intro u hu
      rcases List.mem_append.1 (by simpa using hu : u ∈ A' ++ [y]) with hu | hu
      · have s1' : (A' ++ [y]).Pairwise (fun u v => wrs side u v = true) := by simpa using s1
        exact wrs_trans ((List.pairwise_append.1 s1').2.2 u hu y (by simp)) hy
      · have : u = y := by simpa using hu
        rw [this]; exact hy
  refine List.pairwise_append.2 ⟨s1, List.pairwise_cons.2 ⟨h.behind, s2⟩, fun u hu v hv => ?_⟩
  rcases List.mem_cons.1 hv with rfl | hv
  · exact hAx u hu
  · exact s3 u hu v hv


/-- is an order left at price p? -/
def isLeft (P : Nat → Int) (T n : Nat) (p : Int) : Bool := !(rem P (but T) n p).isEmpty

/-- how many levels the first c prices account for -/
def idxOf (P : Nat → Int) (T n : Nat) (M : List Int) (c : Nat) : Nat := ((M.take c).filter (isLeft P T n)).length

theorem idxOf_zero (P : Nat → Int) (T n : Nat) (M : List Int) : idxOf P T n M 0 = 0 := by simp [idxOf]
theorem idxOf_succ (P : Nat → Int) (T n : Nat) (M : List Int) (c : Nat) (hc : c < M.length) : idxOf P T n M (c + 1) = idxOf P T n M c + if isLeft P T n M[c] then 1 else 0 := by
  unfold idxOf
  rw [List.take_succ_eq_append_getElem hc, List.filter_append, List.length_append]
  congr 1
  by_cases h : isLeft P T n M[c] = true
  · simp [List.filter_cons, h]
  · simp [List.filter_cons, h]
theorem idxOf_le (P : Nat → Int) (T n : Nat) (M : List Int) (c : Nat) : idxOf P T n M c ≤ M.length := by
  unfold idxOf
  refine Nat.le_trans (List.length_filter_le _ _) ?_
  simp; omega

theorem sorted_all {side : Int} {L M : List Int} {a : Nat} (h : Srt side L M a) (ha : L.length ≤ a) : M.Pairwise (fun u v => wrs side u v = true) := by
  have := h.sorted
  rwa [List.take_of_length_le (by rw [h.perm.length_eq]; exact ha)] at this

theorem Left.prices {base O S n : Nat} {side : Int} {P : Nat → Int} {w wr : World} {T : Nat} {Ob : Nat → Nat} {lvs : List Lv} (h : Left base O S n side P w T Ob lvs wr) {L M : List Int} {a : Nat} (hD : Ded P n L) (hS : Srt side L M a) (ha : L.length ≤ a) :
    lvs.map (·.price) = M.filter (isLeft P T n) :=
  h.good.prices (sorted_all hS ha) (fun m hm => hS.perm.mem_iff.2 ((hD.mem _).2 ⟨m, hm, rfl⟩))

theorem Left.total {base O S n : Nat} {side : Int} {P : Nat → Int} {w wr : World} {T : Nat} {Ob : Nat → Nat} {lvs : List Lv} (h : Left base O S n side P w T Ob lvs wr) {L M : List Int} {a : Nat} (hD : Ded P n L) (hS : Srt side L M a) (ha : L.length ≤ a) :
    idxOf P T n M M.length = lvs.length := by
  have := congrArg List.length (h.prices hD hS ha)
  unfold idxOf
  rw [List.take_length, ← this, List.length_map]

/-- the level that price M[c] is found at -/
theorem Left.found {base O S n : Nat} {side : Int} {P : Nat → Int} {w wr : World} {T : Nat} {Ob : Nat → Nat} {lvs : List Lv} (h : Left base O S n side P w T Ob lvs wr) {L M : List Int} {a : Nat} (hD : Ded P n L) (hS : Srt side L M a) (ha : L.length ≤ a)
    {c : Nat} (hc : c < M.length) (hl : isLeft P T n M[c] = true) : ∃ l, lvs[idxOf P T n M c]? = some l ∧ l.price = M[c] ∧ l.ords = (rem P (but T) n M[c]).map Ob := by
  have hp := h.prices hD hS ha
  have e : M.filter (isLeft P T n) = (M.take c).filter (isLeft P T n) ++ M[c] :: (M.drop (c + 1)).filter (isLeft P T n) := by
    conv => lhs; rw [show M = M.take c ++ M[c] :: M.drop (c + 1) by simp]
    rw [List.filter_append, List.filter_cons, if_pos hl]
  rw [e] at hp
  have h1 : (lvs.map (·.price))[idxOf P T n M c]? = some M[c] := by
    rw [hp, List.getElem?_append_right (by unfold idxOf; omega)]
    simp [idxOf]
  rw [List.getElem?_map, Option.map_eq_some_iff] at h1
  obtain ⟨l, hl1, hl2⟩ := h1
  exact ⟨l, hl1, hl2, by rw [← hl2]; exact (h.good.ords _ l hl1).1⟩

/-- a level's cells, in whatever world holds the old blocks -/
structure LvCells (S n idx : Nat) (l : Lv) (w' : World) : Prop where
  top : ∃ g cap, w'.cell? ⟨S, 1, none⟩ = some (.slice (some ⟨g, 0, none⟩) n cap) ∧ w'.cell? ⟨g, idx, none⟩ = some (ptr l.blk)
  price : w'.cell? ⟨l.blk, 0, none⟩ = some (.int .i64 l.price)
  queue : w'.cell? ⟨l.blk, 1, none⟩ = some (.slice (some ⟨l.row, 0, none⟩) l.ords.length l.cap)
  ords : ∀ (q o : Nat), l.ords[q]? = some o → w'.cell? ⟨l.row, q, none⟩ = some (ptr o)

theorem Left.cells {base O S n : Nat} {side : Int} {P : Nat → Int} {w wr : World} {T : Nat} {Ob : Nat → Nat} {lvs : List Lv} (h : Left base O S n side P w T Ob lvs wr) {idx : Nat} {l : Lv} (hl : lvs[idx]? = some l) : LvCells S lvs.length idx l wr := by
  obtain ⟨v, hB⟩ := h.book
  obtain ⟨ga, cap, rfl⟩ := hB.slice
  have hlt := (List.getElem?_eq_some_iff.1 hl).1
  obtain ⟨g, rfl, hg⟩ := hB.levels.row idx hlt
  have ha := hB.lv idx l hl
  have e : Lb lvs idx = l.blk := by simp [Lb, hl]
  rw [e] at hg
  refine ⟨⟨g, cap, hB.levels.lvs, hg⟩, (two_cells ha.blk).1, (two_cells ha.blk).2.1, fun q o hq => ?_⟩
  have hql := (List.getElem?_eq_some_iff.1 hq).1
  rw [ha.own.cellAt q (by omega), List.getElem?_map, hq]; rfl

theorem LvCells.below {S n idx : Nat} {l : Lv} {W w' : World} (h : LvCells S n idx l W) (hb : Below W.heap.size W w') : LvCells S n idx l w' := by
  obtain ⟨g, cap, h1, h2⟩ := h.top
  exact ⟨⟨g, cap, cell_below hb h1, cell_below hb h2⟩, cell_below hb h.price, cell_below hb h.queue, fun q o hq => cell_below hb (h.ords q o hq)⟩

theorem Left.topcell {base O S n : Nat} {side : Int} {P : Nat → Int} {w wr : World} {T : Nat} {Ob : Nat → Nat} {lvs : List Lv} (h : Left base O S n side P w T Ob lvs wr) : ∃ ga cap, wr.cell? ⟨S, 1, none⟩ = some (.slice ga lvs.length cap) := by
  obtain ⟨v, hB⟩ := h.book
  obtain ⟨ga, cap, rfl⟩ := hB.slice
  exact ⟨ga, cap, hB.levels.lvs⟩

theorem Left.ordcell {base O S n : Nat} {side : Int} {P : Nat → Int} {w wr : World} {T : Nat} {Ob : Nat → Nat} {lvs : List Lv} (h : Left base O S n side P w T Ob lvs wr) {q : Nat} (hq : q < n) : wr.cell? ⟨O, q, none⟩ = some (ptr (Ob q)) := by
  obtain ⟨xs, hown, hxs⟩ := h.arr
  exact (hown.cellAt q (by omega)).trans (hxs q hq)

/-- a slice of pointers of the call's own, its shape and its cells -/
theorem ptrs_own {w : World} {B : Nat} {v : Value} {L : List Nat} (h : w.ownsRow B 30 1 v L.length (L.map ptr)) :
    ∃ sa sc, v = .slice sa L.length sc ∧ ∀ q o, L[q]? = some o → ∃ g, sa = some ⟨g, 0, none⟩ ∧ w.cell? ⟨g, q, none⟩ = some (ptr o) := by
  have ho := h
  rcases h.2 with ⟨rfl, e⟩ | ⟨g, cap, cur, rfl, _⟩
  · rw [e]; exact ⟨_, _, rfl, fun q o hq => by have := (List.getElem?_eq_some_iff.1 hq).1; omega⟩
  · refine ⟨_, _, rfl, fun q o hq => ⟨g, rfl, ?_⟩⟩
    have hql := (List.getElem?_eq_some_iff.1 hq).1
    rw [ho.cellAt q (by omega), List.getElem?_map, hq]; rfl

theorem ints_kept {w w' : World} {B : Nat} {v v' : Value} {n n' : Nat} {xs xs' : List Value} {o : Obj} (h : w.ownsRow B 2 1 v n xs) (h' : w.ownsRow B 30 1 v' n' xs') (hg : (w.alloc o).grownBy w' v'.ownBlock) : w'.ownsRow B 2 1 v n xs := by
  refine ownsRow_of h (fun g hgb => ?_)
  obtain ⟨_, cs, hc⟩ := ownsRow_tag h hgb
  have hlt := lt_of_block hc
  rw [hg.block g (by simp; omega) (fun e => ?_), Below.heap_alloc _ _ _ hlt]
  obtain ⟨_, cs', hc'⟩ := ownsRow_tag h' e.symm
  exact tag_ne hc hc' (by decide) rfl

theorem equalIn_same (d a : Nat) (w : World) : (Op.equalIn (d + 1) 30 (.pointer (some ⟨a, 0, none⟩)) (.pointer (some ⟨a, 0, none⟩))).run Yba.prog w = .ok true w := by
  have hte : Yba.prog.info? 45 = some Yba.t45 := by kernel_rfl
  simp [Op.equalIn, run_underlying Yba.underlying30, typeInfo, sizeOf, hte, run_sameAddr_same]

theorem neq_same (a : Nat) (w : World) : (binOp .neq 30 (.pointer (some ⟨a, 0, none⟩)) (.pointer (some ⟨a, 0, none⟩))).run Yba.prog w = .ok (.bool false) w := by
  simp only [binOp]
  simp [Op.equal, Op.maxDepth, equalIn_same 9999 a w]

end Go.Proofs.Ybulkdoqg
