import Derived.Test.YbulkdoqgBook
import Derived.Deep.DrawnRows
namespace Go.Proofs.Ybulkdoqg
open Go.RowKit
set_option linter.unusedSimpArgs false
attribute [local go_sem ↓] Go.wp_at_zero Go.wp_at_succ

theorem Lp_at {lvs : List Lv} {i : Nat} {l : Lv} (h : lvs[i]? = some l) : Lp lvs i = l.price := by simp [Lp, h]
theorem Lb_at {lvs : List Lv} {i : Nat} {l : Lv} (h : lvs[i]? = some l) : Lb lvs i = l.blk := by simp [Lb, h]

theorem frozen_later {W : World} {b k : Nat} {o : Obj} (hb : b < W.heap.size) (h : W.frozen? ⟨b, k, none⟩ = false) : (W.alloc o).drew.frozen? ⟨b, k, none⟩ = false :=
  (World.frozen?_of_block (w := W) (a := ⟨b, k, none⟩) (Below.heap_alloc W o b hb)).trans h

theorem cell_later2 {W : World} {b k : Nat} {o : Obj} {v : Value} (hb : b < W.heap.size) (h : W.cell? ⟨b, k, none⟩ = some v) : (W.alloc o).drew.cell? ⟨b, k, none⟩ = some v :=
  (World.cell?_of_block (w := W) (a := ⟨b, k, none⟩) (Below.heap_alloc W o b hb)).trans h

/-- 'add' where a level of that price is there. -/
def AddPost (base O S o : Nat) (side p : Int) (lvs : List Lv) (w : World) (e : Ending) (w' : World) : Prop :=
  e = .returned (.tuple #[]) ∧ Kept base O w w' ∧ ∃ (r : Nat) (lvs' : List Lv), First side p lvs.length (Lp lvs) r ∧ Book base O S side lvs' w' ∧
    ((∃ l gg cap', lvs[r]? = some l ∧ l.price = p ∧ lvs' = lvs.set r { l with row := gg, cap := cap', ords := l.ords ++ [o] }) ∨
     ((∀ l, lvs[r]? = some l → l.price ≠ p) ∧ ∃ x : Lv, x.price = p ∧ x.ords = [o] ∧ lvs' = lvs.take r ++ x :: lvs.drop r))

theorem push_end {base O S o r g cap gg cap' : Nat} {side p : Int} {lvs : List Lv} {l : Lv} {w W w2 : World} (hbW : Below w.heap.size w W) (HB : BookV base O S side (.slice (some ⟨g, 0, none⟩) lvs.length cap) lvs W)
    (hl : lvs[r]? = some l) (hpl : l.price = p) (hF : First side p lvs.length (Lp lvs) r)
    (hown1 : w2.ownsRow base 30 1 (.slice (some ⟨gg, 0, none⟩) (l.ords.length + 1) cap') (l.ords.length + 1) (l.ords.map ptr ++ [ptr o]))
    (hgrow : (W.alloc (.cells #[ptr o] 30)).drew.grownBy w2 (Value.slice (some ⟨l.row, 0, none⟩) l.ords.length l.cap).ownBlock)
    (hat : (Value.slice (some ⟨l.row, 0, none⟩) l.ords.length l.cap).ownBlock = some gg ∨ gg = W.heap.size + 1) :
    AddPost base O S o side p lvs w (.returned (.tuple #[])) (w2.setCell ⟨l.blk, 1, none⟩ (.slice (some ⟨gg, 0, none⟩) (l.ords.length + 1) cap')) := by
  have hon : Only W w2 (fun k => l.row = k) := (((Only.refl W _).alloc _).drew).trans ((Only.of_grown hgrow).mono (fun k _ e => by simpa [Value.ownBlock] using e))
  have h := HB.turn hl (l.ords ++ [o]) gg cap' (by simpa using hown1) hon (hat.imp (fun e => by simpa [Value.ownBlock] using e.symm) (fun e => by omega))
  rw [show (l.ords ++ [o]).length = l.ords.length + 1 by simp] at h
  exact ⟨rfl, (Kept.of_below hbW).trans h.2, r, _, hF, ⟨_, h.1⟩, .inl ⟨l, gg, cap', hl, hpl, rfl⟩⟩

set_option maxRecDepth 1000000 in
set_option maxHeartbeats 3200000 in
theorem add_found (base O S o r : Nat) (side p : Int) (lvs : List Lv) (l : Lv) (w : World) (hB : Book base O S side lvs w) (ho : Ord w o p) (hlen : lvs.length ≤ 4096) (hol : ∀ (i : Nat) (l : Lv), lvs[i]? = some l → l.ords.length ≤ 4096)
    (hmono : ∀ i j, i ≤ j → j < lvs.length → wrs side (Lp lvs i) p = false → wrs side (Lp lvs j) p = false)
    (hFr : ∀ r', First side p lvs.length (Lp lvs) r' → r' = r) (hl : lvs[r]? = some l) (hpl : l.price = p) :
    Calls Yba.prog 4 #[ptr S, ptr o] w (AddPost base O S o side p lvs w) := by
  obtain ⟨i0, hi00, hz0, hz1, hz2⟩ := info_parts Yba.info30
  have HM : Hid (∀ i j, i ≤ j → j < lvs.length → wrs side (Lp lvs i) p = false → wrs side (Lp lvs j) p = false) := hmono
  have HF : Hid (∀ r', First side p lvs.length (Lp lvs) r' → r' = r) := hFr
  have HOL := hol r l hl
  clear hmono hFr hol
  obtain ⟨v, hB⟩ := hB
  obtain ⟨ga, cap, rfl⟩ := hB.slice
  have hv := hB.levels
  have co := ho.cell
  go_enter Yba.func4, Yba.ntmps4
  go_wp2_with fail
  refine (search_any S lvs.length cap side p ga (Lb lvs) (Lp lvs) w hv (by omega) HM.out).mono ?_
  rintro e w1 ⟨r', rfl, hF, hb⟩
  obtain rfl : r' = r := HF.out r' hF
  have hB1 := hB.below hb
  have ho1 := ho.below hb
  have co1 := ho1.cell
  have hv1 := hB1.levels
  have cS := hv1.lvs
  have hrn : r' < lvs.length := (List.getElem?_eq_some_iff.1 hl).1
  obtain ⟨g, rfl, hg⟩ := hv1.row r' hrn
  have hq := hv1.lv r' hrn
  rw [Lp_at hl, Lb_at hl, hpl] at hq
  rw [Lb_at hl] at hg
  have ha1 := hB1.lv r' l hl
  have hL1 := (two_cells ha1.blk).2.1
  have hLf := (two_cells ha1.blk).2.2.2
  have hd : decide ((r' : Int) < (lvs.length : Int)) = true := decide_eq_true (by omega)
  have hi0 : (0 : Int) ≤ (r' : Int) := by omega
  have hi1 : (r' : Int) < (lvs.length : Int) := by omega
  have hql := eql34 p p
  have hqe : (p == p) = true := by simp
  rw [hqe] at hql
  have hqg := eqG34
  clear hv co hv1 hqe
  go_wp2_with fail
  go_quiet (fail)
  clear hql hqg hq co1 hd cS hg hL1 hLf ha1
  have hbN : Below w1.heap.size w1 (w1.drewN nq) := below_drewN (Below.refl _ _) nq
  have hB2 := hB1.below hbN
  have hbW : Below w.heap.size w (w1.drewN nq) := hb.trans (hbN.mono hb.size)
  clear hB1 hbN hb ho1
  generalize w1.drewN nq = W at *
  have hv2 := hB2.levels
  have cS := hv2.lvs
  obtain ⟨g', hgg, hg⟩ := hv2.row r' hrn
  cases hgg
  rw [Lb_at hl] at hg
  have ha2 := hB2.lv r' l hl
  have hL1 := (two_cells ha2.blk).2.1
  have hLf := (two_cells ha2.blk).2.2.2
  obtain ⟨_, cr, hcr⟩ := ha2.row_tag
  obtain ⟨_, cg, hcg⟩ := ownsRow_tag hB2.row rfl
  have lS := lt_of_block hB2.top
  have lg := lt_of_block hcg
  have lL := lt_of_block ha2.blk
  have aS : (some S : Option Nat) ≠ some l.row := by simpa using tag_ne hB2.top hcr (by decide)
  have ag : (some g : Option Nat) ≠ some l.row := by simpa using tag_ne hcg hcr (by decide)
  have aL : (some l.blk : Option Nat) ≠ some l.row := by simpa using tag_ne ha2.blk hcr (by decide)
  have nSL : ¬ S = l.blk := tag_ne hB2.top ha2.blk (by decide)
  have ngL : ¬ g = l.blk := tag_ne hcg ha2.blk (by decide)
  have hbase : base ≤ W.heap.size := Nat.le_trans hB2.geS (Nat.le_of_lt lS)
  have hown := ha2.own
  have HB : Hid (BookV base O S side (.slice (some ⟨g, 0, none⟩) lvs.length cap) lvs W) := hB2
  clear hB hB2 hv2 ha2 hcr hcg
  go_wp2_with fail
  refine wp_region_noPanic ?_
  refine wp_region_held_drew (S := fun w' => w'.cell? ⟨S, 1, none⟩ = some (.slice (some ⟨g, 0, none⟩) lvs.length cap) ∧ w'.cell? ⟨g, r', none⟩ = some (.pointer (some ⟨l.blk, 0, none⟩))) (by kernel_rfl) ?_ (fun hHeld => ?_)
  · (try dsimp only); go_keep
  refine wpAnyH_take (i := 0) (v := ?_) rfl (by kernel_rfl) (by kernel_rfl) (by kernel_rfl) (fun _ _ _ h => h) (Or.inl ⟨by rfl, ?_⟩) (by assumption) ?_
  rotate_left
  · intro w hSw; (try dsimp only at hSw); go_simp; try (with_reducible rfl)
  (try simp only [Act.put, List.setIfInBounds_toArray, List.set_cons_zero, List.set_cons_succ])
  refine wpAnyH_take (i := 1) (v := ?_) rfl (by kernel_rfl) (by kernel_rfl) (by kernel_rfl) (fun _ _ _ h => h) (Or.inl ⟨by rfl, ?_⟩) (by assumption) ?_
  rotate_left
  · intro w hSw; (try dsimp only at hSw); go_simp; try (with_reducible rfl)
  (try simp only [Act.put, List.setIfInBounds_toArray, List.set_cons_zero, List.set_cons_succ])
  refine wpAnyH_take (i := 2) (v := ?_) rfl (by kernel_rfl) (by kernel_rfl) (by kernel_rfl) (fun _ _ _ h => h) (Or.inl ⟨by rfl, ?_⟩) (by assumption) ?_
  rotate_left
  · intro w hSw; (try dsimp only at hSw); go_simp; try (with_reducible rfl)
  (try simp only [Act.put, List.setIfInBounds_toArray, List.set_cons_zero, List.set_cons_succ])
  refine wpAnyH_take (i := 3) (v := ?_) rfl (by kernel_rfl) (by kernel_rfl) (by kernel_rfl) (fun _ _ _ h => h) (Or.inl ⟨by rfl, ?_⟩) (by assumption) ?_
  rotate_left
  · intro w hSw; (try dsimp only at hSw); go_simp; try (with_reducible rfl)
  (try simp only [Act.put, List.setIfInBounds_toArray, List.set_cons_zero, List.set_cons_succ])
  refine wpAnyH_take (i := 4) (v := ?_) rfl (by kernel_rfl) (by kernel_rfl) (by kernel_rfl) (fun _ _ _ h => h) (Or.inl ⟨by rfl, ?_⟩) (by assumption) ?_
  rotate_left
  · intro w hSw; (try dsimp only at hSw); go_simp; try (with_reducible rfl)
  (try simp only [Act.put, List.setIfInBounds_toArray, List.set_cons_zero, List.set_cons_succ])
  refine wpAnyH_take (i := 5) (v := ?_) rfl (by kernel_rfl) (by kernel_rfl) (by kernel_rfl) (fun _ _ _ h => h) (Or.inl ⟨by rfl, ?_⟩) (by assumption) ?_
  rotate_left
  · intro w hSw; (try dsimp only at hSw); go_simp; try (with_reducible rfl)
  (try simp only [Act.put, List.setIfInBounds_toArray, List.set_cons_zero, List.set_cons_succ])
  refine wpAnyH_take (i := 6) (v := ?_) rfl (by kernel_rfl) (by kernel_rfl) (by kernel_rfl) (fun _ _ _ h => h) (Or.inl ⟨by rfl, ?_⟩) (by assumption) ?_
  rotate_left
  · intro w hSw; (try dsimp only at hSw); go_simp; try (with_reducible rfl)
  (try simp only [Act.put, List.setIfInBounds_toArray, List.set_cons_zero, List.set_cons_succ])
  refine wpAnyH_take (i := 7) (v := ?_) rfl (by kernel_rfl) (by kernel_rfl) (by kernel_rfl) (fun _ _ _ h => h) (Or.inl ⟨by rfl, ?_⟩) (by assumption) ?_
  rotate_left
  · intro w hSw; (try dsimp only at hSw); go_simp; try (with_reducible rfl)
  (try simp only [Act.put, List.setIfInBounds_toArray, List.set_cons_zero, List.set_cons_succ])
  refine wpAnyH_take (i := 8) (v := ?_) rfl (by kernel_rfl) (by kernel_rfl) (by kernel_rfl) (fun _ _ _ h => h) (Or.inl ⟨by rfl, ?_⟩) (by assumption) ?_
  rotate_left
  · intro w hSw; (try dsimp only at hSw); go_simp; try (with_reducible rfl)
  (try simp only [Act.put, List.setIfInBounds_toArray, List.set_cons_zero, List.set_cons_succ])
  refine wpAnyH_take (i := 9) (v := ?_) rfl (by kernel_rfl) (by kernel_rfl) (by kernel_rfl) (fun _ _ _ h => h) (Or.inl ⟨by rfl, ?_⟩) (by assumption) ?_
  rotate_left
  · intro w hSw; (try dsimp only at hSw); go_simp; try (with_reducible rfl)
  (try simp only [Act.put, List.setIfInBounds_toArray, List.set_cons_zero, List.set_cons_succ])
  refine wpAnyH_take (i := 10) (v := ?_) rfl (by kernel_rfl) (by kernel_rfl) (by kernel_rfl) (fun _ _ _ h => h) (Or.inl ⟨by rfl, ?_⟩) (by assumption) ?_
  rotate_left
  · intro w hSw; (try dsimp only at hSw); go_simp; try (with_reducible rfl)
  (try simp only [Act.put, List.setIfInBounds_toArray, List.set_cons_zero, List.set_cons_succ])
  refine wpAnyH_take (i := 11) (v := ?_) rfl (by kernel_rfl) (by kernel_rfl) (by kernel_rfl) (fun _ _ _ h => h) (Or.inl ⟨by rfl, ?_⟩) (by assumption) ?_
  rotate_left
  · intro w hSw; (try dsimp only at hSw); go_simp; try (with_reducible rfl)
  (try simp only [Act.put, List.setIfInBounds_toArray, List.set_cons_zero, List.set_cons_succ])
  refine wpAnyH_take (i := 12) (v := ?_) rfl (by kernel_rfl) (by kernel_rfl) (by kernel_rfl) (fun _ _ _ h => h) (Or.inl ⟨by rfl, ?_⟩) (by assumption) ?_
  rotate_left
  · intro w hSw; (try dsimp only at hSw); go_simp; try (with_reducible rfl)
  (try simp only [Act.put, List.setIfInBounds_toArray, List.set_cons_zero, List.set_cons_succ])
  refine wpAnyH_take (i := 13) (v := ?_) rfl (by kernel_rfl) (by kernel_rfl) (by kernel_rfl) (fun _ _ _ h => h) (Or.inl ⟨by rfl, ?_⟩) (by assumption) ?_
  rotate_left
  · intro w hSw; (try dsimp only at hSw); go_simp; try (with_reducible rfl)
  (try simp only [Act.put, List.setIfInBounds_toArray, List.set_cons_zero, List.set_cons_succ])
  refine wpAnyH_take (i := 14) (v := ?_) rfl (by kernel_rfl) (by kernel_rfl) (by kernel_rfl) (fun _ _ _ h => h) (Or.inl ⟨by rfl, ?_⟩) (by assumption) ?_
  rotate_left
  · intro w hSw; (try dsimp only at hSw); go_simp; try (with_reducible rfl)
  (try simp only [Act.put, List.setIfInBounds_toArray, List.set_cons_zero, List.set_cons_succ])
  refine wpAnyH_take (i := 15) (v := ?_) rfl (by kernel_rfl) (by kernel_rfl) (by kernel_rfl) (fun _ _ _ h => h) (Or.inl ⟨by rfl, ?_⟩) (by assumption) ?_
  rotate_left
  · intro w hSw; (try dsimp only at hSw); go_simp; try (with_reducible rfl)
  (try simp only [Act.put, List.setIfInBounds_toArray, List.set_cons_zero, List.set_cons_succ])
  refine wpAnyH_take (i := 17) (v := ?_) rfl (by kernel_rfl) (by kernel_rfl) (by kernel_rfl) (fun _ _ _ h => h) (Or.inl ⟨by rfl, ?_⟩) (by assumption) ?_
  rotate_left
  · intro w hSw; (try dsimp only at hSw); go_simp; try (with_reducible rfl)
  (try simp only [Act.put, List.setIfInBounds_toArray, List.set_cons_zero, List.set_cons_succ])
  refine wpAnyH_ready (rs := [16, 18]) (by kernel_rfl) (by simp) ?_
  refine AllReadyH.cons (i := 16) rfl (fun K hK => ?_) ?_
  · go_simp
    refine hK.out _ _ ?_ (fun hHeld => ?_)
    · (try dsimp only); go_keep
    clear hK K
    (try simp only [Act.put, List.setIfInBounds_toArray, List.set_cons_zero, List.set_cons_succ])
    refine wpAnyH_ready (rs := [18]) (by kernel_rfl) (by simp) ?_
    refine AllReadyH.cons (i := 18) rfl (fun K hK => ?_) ?_
    rotate_left
    · exact AllReadyH.nil
    go_simp
    refine hK.out _ _ ?_ (fun hHeld => ?_)
    · (try dsimp only); go_keep
    clear hK K
    (try simp only [Act.put, List.setIfInBounds_toArray, List.set_cons_zero, List.set_cons_succ])
    refine wpAnyH_ready (rs := [19]) (by kernel_rfl) (by simp) ?_
    refine AllReadyH.cons (i := 19) rfl (fun K hK => ?_) ?_
    rotate_left
    · exact AllReadyH.nil
    refine step_append_lies _ (by rfl) _ _ _ (by rfl) base 30 i0 _ 1 8 Yba.underlying29 hi00 hz0 hz1 hz2 rfl (by omega) (.slice (some ⟨l.row, 0, none⟩) l.ords.length l.cap) l.ords.length (l.ords.map ptr) (by rfl) ((hown.alloc _).drew) ⟨W.heap.size, 0, none⟩ 1 1 [ptr o] (by rfl) (by rfl) (World.news_of_block (cs := #[ptr o]) (t := 30) (fr := (0, 0)) (heap_alloc_new W _)) (by simp [Value.oneCell']) (by omega) (by unfold maxLen; omega) (by omega) (by simp; omega) (W.heap.size + 1) (by simp) ?_
    intro gg cap' w2 hown1 hgrow hat hlt
    have hfz : w2.frozen? ⟨l.blk, 1, none⟩ = false := (hgrow.frozen_far _ (by simp; omega) aL).trans (frozen_later (by omega) hLf)
    have hcl : w2.cell? ⟨l.blk, 1, none⟩ = some (.slice (some ⟨l.row, 0, none⟩) l.ords.length l.cap) := (hgrow.cell_far _ (by simp; omega) aL).trans (cell_later2 (by omega) hL1)
    have hcS : w2.cell? ⟨S, 1, none⟩ = some (.slice (some ⟨g, 0, none⟩) lvs.length cap) := (hgrow.cell_far _ (by simp; omega) aS).trans (cell_later2 (by omega) cS)
    have hcg : w2.cell? ⟨g, r', none⟩ = some (.pointer (some ⟨l.blk, 0, none⟩)) := (hgrow.cell_far _ (by simp; omega) ag).trans (cell_later2 (by omega) hg)
    refine hK.out _ _ ?_ (fun hHeld => ?_)
    · (try dsimp only); go_keep
    clear hK K
    (try simp only [Act.put, List.setIfInBounds_toArray, List.set_cons_zero, List.set_cons_succ])
    refine wpAnyH_take (i := 20) (v := ?_) rfl (by kernel_rfl) (by kernel_rfl) (by kernel_rfl) (fun _ _ _ h => h) (Or.inl ⟨by rfl, ?_⟩) (by assumption) ?_
    rotate_left
    · intro w hSw; (try dsimp only at hSw); go_simp; try (with_reducible rfl)
    (try simp only [Act.put, List.setIfInBounds_toArray, List.set_cons_zero, List.set_cons_succ])
    refine wpAnyH_take (i := 21) (v := ?_) rfl (by kernel_rfl) (by kernel_rfl) (by kernel_rfl) (fun _ _ _ h => h) (Or.inl ⟨by rfl, ?_⟩) (by assumption) ?_
    rotate_left
    · intro w hSw; (try dsimp only at hSw); go_simp; try (with_reducible rfl)
    (try simp only [Act.put, List.setIfInBounds_toArray, List.set_cons_zero, List.set_cons_succ])
    refine wpAnyH_ready (rs := [22]) (by kernel_rfl) (by simp) ?_
    refine AllReadyH.cons (i := 22) rfl (fun K hK => ?_) ?_
    rotate_left
    · exact AllReadyH.nil
    go_simp
    refine hK.out _ _ ?_ (fun hHeld => ?_)
    · (try dsimp only); exact ⟨(World.cell?_of_block (w := w2) (Below.heap_setCell _ _ _ _ nSL)).trans hcS, (World.cell?_of_block (w := w2) (Below.heap_setCell _ _ _ _ ngL)).trans hcg⟩
    clear hK K
    (try simp only [Act.put, List.setIfInBounds_toArray, List.set_cons_zero, List.set_cons_succ])
    refine wpAnyH_done (by kernel_rfl) ?_ _
    refine NoPanic.normal ?_
    go_wp2
    refine bodyPost_ret (results_none rfl _ _ _) rfl ?_
    exact push_end hbW HB.out hl hpl hF hown1 hgrow hat
  refine AllReadyH.cons (i := 18) rfl (fun K hK => ?_) ?_
  rotate_left
  · exact AllReadyH.nil
  go_simp
  refine hK.out _ _ ?_ (fun hHeld => ?_)
  · (try dsimp only); go_keep
  clear hK K
  (try simp only [Act.put, List.setIfInBounds_toArray, List.set_cons_zero, List.set_cons_succ])
  refine wpAnyH_ready (rs := [16]) (by kernel_rfl) (by simp) ?_
  refine AllReadyH.cons (i := 16) rfl (fun K hK => ?_) ?_
  rotate_left
  · exact AllReadyH.nil
  go_simp
  refine hK.out _ _ ?_ (fun hHeld => ?_)
  · (try dsimp only); go_keep
  clear hK K
  (try simp only [Act.put, List.setIfInBounds_toArray, List.set_cons_zero, List.set_cons_succ])
  refine wpAnyH_ready (rs := [19]) (by kernel_rfl) (by simp) ?_
  refine AllReadyH.cons (i := 19) rfl (fun K hK => ?_) ?_
  rotate_left
  · exact AllReadyH.nil
  refine step_append_lies _ (by rfl) _ _ _ (by rfl) base 30 i0 _ 1 8 Yba.underlying29 hi00 hz0 hz1 hz2 rfl (by omega) (.slice (some ⟨l.row, 0, none⟩) l.ords.length l.cap) l.ords.length (l.ords.map ptr) (by rfl) ((hown.alloc _).drew) ⟨W.heap.size, 0, none⟩ 1 1 [ptr o] (by rfl) (by rfl) (World.news_of_block (cs := #[ptr o]) (t := 30) (fr := (0, 0)) (heap_alloc_new W _)) (by simp [Value.oneCell']) (by omega) (by unfold maxLen; omega) (by omega) (by simp; omega) (W.heap.size + 1) (by simp) ?_
  intro gg cap' w2 hown1 hgrow hat hlt
  have hfz : w2.frozen? ⟨l.blk, 1, none⟩ = false := (hgrow.frozen_far _ (by simp; omega) aL).trans (frozen_later (by omega) hLf)
  have hcl : w2.cell? ⟨l.blk, 1, none⟩ = some (.slice (some ⟨l.row, 0, none⟩) l.ords.length l.cap) := (hgrow.cell_far _ (by simp; omega) aL).trans (cell_later2 (by omega) hL1)
  have hcS : w2.cell? ⟨S, 1, none⟩ = some (.slice (some ⟨g, 0, none⟩) lvs.length cap) := (hgrow.cell_far _ (by simp; omega) aS).trans (cell_later2 (by omega) cS)
  have hcg : w2.cell? ⟨g, r', none⟩ = some (.pointer (some ⟨l.blk, 0, none⟩)) := (hgrow.cell_far _ (by simp; omega) ag).trans (cell_later2 (by omega) hg)
  refine hK.out _ _ ?_ (fun hHeld => ?_)
  · (try dsimp only); go_keep
  clear hK K
  (try simp only [Act.put, List.setIfInBounds_toArray, List.set_cons_zero, List.set_cons_succ])
  refine wpAnyH_take (i := 20) (v := ?_) rfl (by kernel_rfl) (by kernel_rfl) (by kernel_rfl) (fun _ _ _ h => h) (Or.inl ⟨by rfl, ?_⟩) (by assumption) ?_
  rotate_left
  · intro w hSw; (try dsimp only at hSw); go_simp; try (with_reducible rfl)
  (try simp only [Act.put, List.setIfInBounds_toArray, List.set_cons_zero, List.set_cons_succ])
  refine wpAnyH_take (i := 21) (v := ?_) rfl (by kernel_rfl) (by kernel_rfl) (by kernel_rfl) (fun _ _ _ h => h) (Or.inl ⟨by rfl, ?_⟩) (by assumption) ?_
  rotate_left
  · intro w hSw; (try dsimp only at hSw); go_simp; try (with_reducible rfl)
  (try simp only [Act.put, List.setIfInBounds_toArray, List.set_cons_zero, List.set_cons_succ])
  refine wpAnyH_ready (rs := [22]) (by kernel_rfl) (by simp) ?_
  refine AllReadyH.cons (i := 22) rfl (fun K hK => ?_) ?_
  rotate_left
  · exact AllReadyH.nil
  go_simp
  refine hK.out _ _ ?_ (fun hHeld => ?_)
  · (try dsimp only); exact ⟨(World.cell?_of_block (w := w2) (Below.heap_setCell _ _ _ _ nSL)).trans hcS, (World.cell?_of_block (w := w2) (Below.heap_setCell _ _ _ _ ngL)).trans hcg⟩
  clear hK K
  (try simp only [Act.put, List.setIfInBounds_toArray, List.set_cons_zero, List.set_cons_succ])
  refine wpAnyH_done (by kernel_rfl) ?_ _
  refine NoPanic.normal ?_
  go_wp2
  refine bodyPost_ret (results_none rfl _ _ _) rfl ?_
  exact push_end hbW HB.out hl hpl hF hown1 hgrow hat
end Go.Proofs.Ybulkdoqg
