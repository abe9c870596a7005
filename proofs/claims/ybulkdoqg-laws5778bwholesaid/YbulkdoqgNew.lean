import Derived.Test.YbulkdoqgFound
import Derived.Deep.RegionHeld3
namespace Go.Proofs.Ybulkdoqg
open Go.RowKit
set_option linter.unusedSimpArgs false
attribute [local go_sem ↓] Go.wp_at_zero Go.wp_at_succ

/-- Behind 's.levels = append(s.levels, nil)'. -/
theorem ins_mid {base O S g2 cap2 : Nat} {side : Int} {lvs : List Lv} {v : Value} {W w2 : World} (HB : BookV base O S side v lvs W)
    (hown2 : w2.ownsRow base 50 1 (.slice (some ⟨g2, 0, none⟩) (lvs.length + 1) cap2) (lvs.length + 1) (lvPtrs lvs ++ [.pointer none]))
    (hgrow2 : (W.alloc (.cells #[.pointer none] 50)).grownBy w2 v.ownBlock) :
    (w2.setCell ⟨S, 1, none⟩ (.slice (some ⟨g2, 0, none⟩) (lvs.length + 1) cap2)).heap[S]? = some (.cells #[.int .u8 side, .slice (some ⟨g2, 0, none⟩) (lvs.length + 1) cap2] 28 (0, 0)) ∧
    (w2.setCell ⟨S, 1, none⟩ (.slice (some ⟨g2, 0, none⟩) (lvs.length + 1) cap2)).ownsRow base 50 1 (.slice (some ⟨g2, 0, none⟩) (lvs.length + 1) cap2) (lvs.length + 1) (lvPtrs lvs ++ [.pointer none]) ∧
    Only W (w2.setCell ⟨S, 1, none⟩ (.slice (some ⟨g2, 0, none⟩) (lvs.length + 1) cap2)) (fun k => k = S ∨ v.ownBlock = some k) := by
  have hon : Only W w2 (fun k => v.ownBlock = some k) := ((Only.refl W _).alloc _).trans (Only.of_grown hgrow2)
  have hS2 : w2.heap[S]? = some (.cells #[.int .u8 side, v] 28 (0, 0)) := by
    rw [hon.block S (lt_of_block HB.top) (fun e => by
      obtain ⟨_, cg, hcg⟩ := ownsRow_tag HB.row e
      exact tag_ne HB.top hcg (by decide) rfl)]
    exact HB.top
  refine ⟨two_set1 hS2, ownsRow_of hown2 (fun g hg => ?_), (hon.mono (fun k _ h => .inr h)).setCell _ (.inl rfl) _⟩
  obtain ⟨_, cg, hcg⟩ := ownsRow_tag hown2 hg
  exact Below.heap_setCell _ _ _ _ (tag_ne hcg hS2 (by decide))

theorem ins_list {α : Type} (P : List α) (u x : α) (r : Nat) (hr : r ≤ P.length) : (((P ++ [u]).take (r + 1) ++ P.drop r).set r x) = P.take r ++ x :: P.drop r := by
  apply List.ext_getElem?
  intro i
  have hl : ((P ++ [u]).take (r + 1)).length = r + 1 := by simp; omega
  rw [List.getElem?_set, ins_get P x r i hr]
  by_cases h1 : i < r
  · rw [if_neg (by omega), if_pos h1, List.getElem?_append_left (by omega), List.getElem?_take, if_pos (by omega), List.getElem?_append_left (by omega)]
  · rw [if_neg h1]
    by_cases h2 : i = r
    · subst h2
      rw [if_pos rfl, if_pos rfl, if_pos (by rw [List.length_append, hl]; omega)]
    · rw [if_neg (fun e => h2 e.symm), if_neg h2, List.getElem?_append_right (by omega), hl, List.getElem?_drop, show r + (i - (r + 1)) = i - 1 by omega]

theorem ins_row {base g2 cap2 n r : Nat} {P cur : List Value} {u : Value} {w3 w4 : World} (hr : r ≤ n) (hP : P.length = n)
    (h3 : w3.ownsRow base 50 1 (.slice (some ⟨g2, 0, none⟩) (n + 1) cap2) (n + 1) (P ++ [u])) (hcur : w3.heap[g2]? = some (.cells cur.toArray 50 (0, 0)))
    (hg4 : w4.heap[g2]? = some (.cells (splice cur (r + 1) (P.drop r)).toArray 50 (0, 0))) :
    w4.ownsRow base 50 1 (.slice (some ⟨g2, 0, none⟩) (n + 1) cap2) (n + 1) ((P ++ [u]).take (r + 1) ++ P.drop r) := by
  obtain ⟨h1, h2⟩ := h3
  rcases h2 with ⟨h0, _⟩ | ⟨g', cap', c3, hv, hg, hh, hn, hcap, hsz, htake⟩
  · cases h0
  · cases hv
    rw [hh] at hcur
    simp only [Option.some.injEq, Obj.cells.injEq, true_and, and_true] at hcur
    subst hcur
    simp only [List.size_toArray, Nat.mul_one] at hsz
    simp only [Nat.mul_one] at htake
    have hlen : (P.drop r).length = n - r := by simp [hP]
    refine ⟨by simp; omega, .inr ⟨g2, cap2, _, rfl, hg, hg4, hn, hcap, ?_, ?_⟩⟩
    · rw [List.size_toArray, length_splice _ _ _ (by omega)]; omega
    · rw [List.toList_toArray, Nat.mul_one, ← htake]
      unfold splice
      rw [List.take_take, Nat.min_eq_left (by omega), ← List.append_assoc, List.take_append_of_le_length (by simp; omega)]
      exact List.take_of_length_le (by simp; omega)

theorem ownsRow_cur {base g2 n cap2 : Nat} {e : TypeId} {xs : List Value} {w : World} (h : w.ownsRow base e 1 (.slice (some ⟨g2, 0, none⟩) n cap2) n xs) : ∃ cur : List Value, w.heap[g2]? = some (.cells cur.toArray e (0, 0)) ∧ cur.length = cap2 := by
  obtain ⟨h1, h2⟩ := h
  rcases h2 with ⟨h0, _⟩ | ⟨g', cap', c3, hv, hg, hh, hn, hcap, hsz, htake⟩
  · cases h0
  · cases hv
    exact ⟨c3.toList, by simpa using hh, by simpa using hsz⟩

/-- Behind the copy. -/
theorem ins_w4 {base O S o g2 cap2 r : Nat} {side p : Int} {v : Value} {lvs : List Lv} {cur : List Value} {W w3 w4 : World} (HB : BookV base O S side v lvs W) (HO : Ord W o p) (hr : r ≤ lvs.length)
    (HT3 : w3.heap[S]? = some (.cells #[.int .u8 side, .slice (some ⟨g2, 0, none⟩) (lvs.length + 1) cap2] 28 (0, 0)))
    (HO3 : w3.ownsRow base 50 1 (.slice (some ⟨g2, 0, none⟩) (lvs.length + 1) cap2) (lvs.length + 1) (lvPtrs lvs ++ [.pointer none]))
    (HY3 : Only W w3 (fun k => k = S ∨ v.ownBlock = some k)) (hg2 : v.ownBlock = some g2 ∨ W.heap.size ≤ g2) (hcur : w3.heap[g2]? = some (.cells cur.toArray 50 (0, 0)))
    (hg4 : w4.heap[g2]? = some (.cells (splice cur (r + 1) ((lvPtrs lvs).drop r)).toArray 50 (0, 0))) (hgr4 : w3.drew.grownBy w4 (some g2)) :
    w4.heap[S]? = some (.cells #[.int .u8 side, .slice (some ⟨g2, 0, none⟩) (lvs.length + 1) cap2] 28 (0, 0)) ∧
    w4.ownsRow base 50 1 (.slice (some ⟨g2, 0, none⟩) (lvs.length + 1) cap2) (lvs.length + 1) ((lvPtrs lvs ++ [Value.pointer none]).take (r + 1) ++ (lvPtrs lvs).drop r) ∧
    Only W w4 (fun k => k = S ∨ v.ownBlock = some k) ∧ Ord w4 o p := by
  have hon4 : Only W w4 (fun k => k = S ∨ v.ownBlock = some k) := by
    have h34 : Only w3 w4 (fun k => k = g2) := ((Only.refl w3 _).drew).trans ((Only.of_grown hgr4).mono (fun k _ e => by simpa using e.symm))
    refine ⟨h34.os.trans HY3.os, h34.tape.trans HY3.tape, h34.output.trans HY3.output, Nat.le_trans HY3.size h34.size, fun k hk hn => ?_⟩
    refine (h34.block k (Nat.lt_of_lt_of_le hk HY3.size) (fun e => ?_)).trans (HY3.block k hk hn)
    rcases hg2 with h | h
    · exact hn (.inr (by rw [h, e]))
    · omega
  refine ⟨?_, ins_row hr (by simp [lvPtrs]) HO3 hcur hg4, hon4, HO.of_block (hon4.block o HO.lt (fun hb => ?_))⟩
  · rw [hgr4.block S (lt_of_block HT3) (fun e => by simp at e; exact tag_ne HT3 hcur (by decide) e)]; exact HT3
  · obtain ⟨cs, h1, _⟩ := HO
    rcases hb with rfl | hb
    · exact tag_ne h1 HB.top (by decide) rfl
    · obtain ⟨_, cg, hcg⟩ := ownsRow_tag HB.row hb
      exact tag_ne h1 hcg (by decide) rfl

theorem Only.setCellAt {a b : World} {bs : Nat → Prop} (h : Only a b bs) (p : Addr) (hp : bs p.block ∨ a.heap.size ≤ p.block) (u : Value) : Only a (b.setCell p u) bs :=
  ⟨h.os, h.tape, h.output, by simp [World.setCell]; exact h.size, fun k hk hn => by
    rw [Below.heap_setCell _ _ _ _ (fun e => by
      rcases hp with hp | hp
      · exact hn (e ▸ hp)
      · omega)]
    exact h.block k hk hn⟩
theorem kp_block {w4 : World} {b g r : Nat} {x : Value} {A B : Obj} (hl : b < w4.heap.size) (hn : ¬ b = g) : (((w4.setCell ⟨g, r, none⟩ x).alloc A).alloc B).drew.heap[b]? = w4.heap[b]? := by
  show (((w4.setCell ⟨g, r, none⟩ x).alloc A).alloc B).heap[b]? = _
  have hs : (w4.setCell ⟨g, r, none⟩ x).heap.size = w4.heap.size := by simp [World.setCell]
  rw [Below.heap_alloc _ _ _ (by simp; omega), Below.heap_alloc _ _ _ (by omega), Below.heap_setCell _ _ _ _ hn]
theorem kp {w4 : World} {b k g r : Nat} {x v : Value} {A B : Obj} (hl : b < w4.heap.size) (hn : ¬ b = g) (h : w4.cell? ⟨b, k, none⟩ = some v) : (((w4.setCell ⟨g, r, none⟩ x).alloc A).alloc B).drew.cell? ⟨b, k, none⟩ = some v :=
  (World.cell?_of_block (w := w4) (a := ⟨b, k, none⟩) (kp_block hl hn)).trans h

theorem ins_end {base O S o g2 cap2 r : Nat} {side p : Int} {v : Value} {lvs : List Lv} {w W w4 : World} (hbW : Below w.heap.size w W) (HB : BookV base O S side v lvs W) (hr : r ≤ lvs.length) (hF : First side p lvs.length (Lp lvs) r)
    (hno : ∀ (r : Nat) (l : Lv), First side p lvs.length (Lp lvs) r → lvs[r]? = some l → l.price ≠ p)
    (top4 : w4.heap[S]? = some (.cells #[.int .u8 side, .slice (some ⟨g2, 0, none⟩) (lvs.length + 1) cap2] 28 (0, 0)))
    (own4 : w4.ownsRow base 50 1 (.slice (some ⟨g2, 0, none⟩) (lvs.length + 1) cap2) (lvs.length + 1) ((lvPtrs lvs ++ [Value.pointer none]).take (r + 1) ++ (lvPtrs lvs).drop r))
    (only4 : Only W w4 (fun k => k = S ∨ v.ownBlock = some k)) (hg2 : v.ownBlock = some g2 ∨ W.heap.size ≤ g2) (nS : ¬ S = g2) :
    AddPost base O S o side p lvs w (.returned (.tuple #[])) (((w4.setCell ⟨g2, r, none⟩ (.pointer (some ⟨w4.heap.size + 1, 0, none⟩))).alloc (.cells #[ptr o] 30)).alloc (.cells #[.int .i64 p, .slice (some ⟨w4.heap.size, 0, none⟩) 1 1] 52)).drew := by
  have hsz : (w4.setCell ⟨g2, r, none⟩ (.pointer (some ⟨w4.heap.size + 1, 0, none⟩))).heap.size = w4.heap.size := by simp [World.setCell]
  have hbase : base ≤ W.heap.size := Nat.le_trans HB.geS (Nat.le_of_lt (lt_of_block HB.top))
  obtain ⟨own5, _⟩ := own4.stored r (.pointer (some ⟨w4.heap.size + 1, 0, none⟩))
  rw [ins_list _ _ _ _ (by simp [lvPtrs]; omega)] at own5
  have h30 : (((w4.setCell ⟨g2, r, none⟩ (.pointer (some ⟨w4.heap.size + 1, 0, none⟩))).alloc (.cells #[ptr o] 30)).alloc (.cells #[.int .i64 p, .slice (some ⟨w4.heap.size, 0, none⟩) 1 1] 52)).drew.heap[w4.heap.size]? = some (.cells #[ptr o] 30 (0, 0)) := by
    show (World.alloc _ _).heap[w4.heap.size]? = _
    rw [Below.heap_alloc _ _ _ (by simp [hsz])]
    have := heap_alloc_new (w4.setCell ⟨g2, r, none⟩ (.pointer (some ⟨w4.heap.size + 1, 0, none⟩))) (.cells #[ptr o] 30)
    rwa [hsz] at this
  have h52 : (((w4.setCell ⟨g2, r, none⟩ (.pointer (some ⟨w4.heap.size + 1, 0, none⟩))).alloc (.cells #[ptr o] 30)).alloc (.cells #[.int .i64 p, .slice (some ⟨w4.heap.size, 0, none⟩) 1 1] 52)).drew.heap[w4.heap.size + 1]? = some (.cells #[.int .i64 p, .slice (some ⟨w4.heap.size, 0, none⟩) 1 1] 52 (0, 0)) := by
    show (World.alloc _ _).heap[w4.heap.size + 1]? = _
    have := heap_alloc_new ((w4.setCell ⟨g2, r, none⟩ (.pointer (some ⟨w4.heap.size + 1, 0, none⟩))).alloc (.cells #[ptr o] 30)) (.cells #[.int .i64 p, .slice (some ⟨w4.heap.size, 0, none⟩) 1 1] 52)
    rwa [show ((w4.setCell ⟨g2, r, none⟩ (.pointer (some ⟨w4.heap.size + 1, 0, none⟩))).alloc (.cells #[ptr o] 30)).heap.size = w4.heap.size + 1 by simp [hsz]] at this
  have hW4 := only4.size
  have hres := HB.insert hr ⟨w4.heap.size + 1, p, w4.heap.size, 1, [o]⟩ (v' := .slice (some ⟨g2, 0, none⟩) (lvs.length + 1) cap2)
    (wf := (((w4.setCell ⟨g2, r, none⟩ (.pointer (some ⟨w4.heap.size + 1, 0, none⟩))).alloc (.cells #[ptr o] 30)).alloc (.cells #[.int .i64 p, .slice (some ⟨w4.heap.size, 0, none⟩) 1 1] 52)).drew)
    (by rw [kp_block (lt_of_block top4) nS]; exact top4)
    (by
      have e : lvPtrs (lvs.take r ++ (⟨w4.heap.size + 1, p, w4.heap.size, 1, [o]⟩ : Lv) :: lvs.drop r) = (lvPtrs lvs).take r ++ ptr (w4.heap.size + 1) :: (lvPtrs lvs).drop r := by simp [lvPtrs]
      rw [e]
      refine ownsRow_of own5 (fun g hg => ?_)
      obtain ⟨_, cg, hcg⟩ := ownsRow_tag own5 hg
      have hlt := lt_of_block hcg
      show (World.alloc _ _).heap[g]? = _
      rw [Below.heap_alloc _ _ _ (by simp; omega), Below.heap_alloc _ _ _ hlt])
    ⟨h52, ⟨by simp, .inr ⟨w4.heap.size, 1, #[ptr o], rfl, by omega, h30, Nat.le_refl _, by unfold maxLen; omega, rfl, rfl⟩⟩⟩
    (by
      exact (((only4.setCellAt ⟨g2, r, none⟩ (hg2.imp (fun e => .inr e) id) _).alloc _).alloc _).drew)
    (by show _ ≤ w4.heap.size + 1; omega) (by show _ ≤ w4.heap.size; omega)
  exact ⟨rfl, (Kept.of_below hbW).trans hres.2, r, _, hF, ⟨_, hres.1⟩, .inr ⟨fun l hl => hno r l hF hl, _, rfl, rfl, rfl⟩⟩

set_option maxRecDepth 1000000 in
set_option maxHeartbeats 3200000 in
theorem add_new (base O S o : Nat) (side p : Int) (lvs : List Lv) (w : World) (hB : Book base O S side lvs w) (ho : Ord w o p) (hlen : lvs.length ≤ 4096)
    (hmono : ∀ i j, i ≤ j → j < lvs.length → wrs side (Lp lvs i) p = false → wrs side (Lp lvs j) p = false)
    (hno : ∀ (r : Nat) (l : Lv), First side p lvs.length (Lp lvs) r → lvs[r]? = some l → l.price ≠ p) :
    Calls Yba.prog 4 #[ptr S, ptr o] w (AddPost base O S o side p lvs w) := by
  obtain ⟨i5, hi5, hz50, hz51, hz52⟩ := info_parts Yba.info50
  have HM : Hid (∀ i j, i ≤ j → j < lvs.length → wrs side (Lp lvs i) p = false → wrs side (Lp lvs j) p = false) := hmono
  have HN : Hid (∀ (r : Nat) (l : Lv), First side p lvs.length (Lp lvs) r → lvs[r]? = some l → l.price ≠ p) := hno
  clear hmono hno
  obtain ⟨v, hB⟩ := hB
  obtain ⟨ga, cap, rfl⟩ := hB.slice
  have hv := hB.levels
  have co := ho.cell
  go_enter Yba.func4, Yba.ntmps4
  go_wp2_with fail
  refine (search_any S lvs.length cap side p ga (Lb lvs) (Lp lvs) w hv (by omega) HM.out).mono ?_
  rintro e w1 ⟨r, rfl, hF, hb⟩
  have hB1 := hB.below hb
  have ho1 := ho.below hb
  have co1 := ho1.cell
  have hv1 := hB1.levels
  have cS := hv1.lvs
  have hrn := hF.le
  have hi0 : (0 : Int) ≤ (r : Int) := by omega
  clear hv co
  by_cases hlt : r < lvs.length
  · obtain ⟨g, rfl, hg⟩ := hv1.row r hlt
    have hq := hv1.lv r hlt
    have hd : decide ((r : Int) < (lvs.length : Int)) = true := decide_eq_true (by omega)
    have hi1 : (r : Int) < (lvs.length : Int) := by omega
    have hpe : (Lp lvs r == p) = false := by
      refine beq_eq_false_iff_ne.2 ?_
      rw [Lp_at (List.getElem?_eq_getElem hlt)]
      exact HN.out r _ hF (List.getElem?_eq_getElem hlt)
    have hql := eql34 (Lp lvs r) p
    rw [hpe] at hql
    have hqg := eqG34
    clear hv1 hpe
    go_wp2_with fail
    go_quiet (fail)
    clear hql hqg hq co1 hd cS hg
    have hbN : Below w1.heap.size w1 (w1.drewN nq) := below_drewN (Below.refl _ _) nq
    have hB2 := hB1.below hbN
    have ho2 := ho1.below hbN
    have hbW : Below w.heap.size w (w1.drewN nq) := hb.trans (hbN.mono hb.size)
    clear hB1 hbN hb ho1 hB
    generalize w1.drewN nq = W at *
    have hv2 := hB2.levels
    have cS := hv2.lvs
    have fS := (two_cells hB2.top).2.2.2
    have lS := lt_of_block hB2.top
    have hbase : base ≤ W.heap.size := Nat.le_trans hB2.geS (Nat.le_of_lt lS)
    have hrow := hB2.row
    have aS : (some S : Option Nat) ≠ (Value.slice (some ⟨g, 0, none⟩) lvs.length cap).ownBlock := fun e => by
      obtain ⟨_, cg, hcg⟩ := ownsRow_tag hrow e.symm
      exact tag_ne hB2.top hcg (by decide) rfl
    have HB : Hid (BookV base O S side (.slice (some ⟨g, 0, none⟩) lvs.length cap) lvs W) := hB2
    have HO : Hid (Ord W o p) := ho2
    clear hB2 ho2 hv2
    go_wp2_with (at_builtin; refine wpList_append_lies _ rfl _ _ 26 rfl base 50 i5 _ 1 8 Yba.underlying26 hi5 hz50 hz51 hz52 rfl (by omega) (.slice (some ⟨g, 0, none⟩) lvs.length cap) lvs.length (lvPtrs lvs) (by rfl) (hrow.alloc _) ⟨W.heap.size, 0, none⟩ 1 1 [.pointer none] rfl rfl (cell_one_new _ _ _) (by simp [Value.oneCell']) (by omega) (by unfold maxLen; omega) (by omega) (by simp; omega) (W.heap.size + 1) (by simp) ?_; intro g2 cap2 w2 hown2 hgrow2 hat2 hlt2; have hcS2 : w2.cell? ⟨S, 1, none⟩ = some _ := (hgrow2.cell_far _ (by simp; omega) aS).trans (cell_later2 (W := W) lS cS); have hfS2 : w2.frozen? ⟨S, 1, none⟩ = false := (hgrow2.frozen_far _ (by simp; omega) aS).trans (frozen_later (W := W) lS fS))
    obtain ⟨top3, own3, only3⟩ := ins_mid HB.out hown2 hgrow2
    have HG2 : Hid ((Value.slice (some ⟨g, 0, none⟩) lvs.length cap).ownBlock = some g2 ∨ W.heap.size ≤ g2) := hat2.imp id (fun e => by omega)
    clear hcS2 hfS2 hgrow2 hown2 hat2 hlt2 cS fS aS hrow
    generalize w2.setCell ⟨S, 1, none⟩ (.slice (some ⟨g2, 0, none⟩) (lvs.length + 1) cap2) = w3 at *
    have cS3 := (two_cells top3).2.1
    obtain ⟨hx3, hnc3, hcm3⟩ := ownsRow_cap own3
    unfold maxLen at hcm3
    have lS3 := lt_of_block top3
    have HY3 : Hid (Only W w3 (fun k => k = S ∨ (Value.slice (some ⟨g, 0, none⟩) lvs.length cap).ownBlock = some k)) := only3
    have hx1 : (0 : Int) ≤ (r : Int) + 1 := by omega
    have hx2 : (r : Int) + 1 ≤ ((lvs.length + 1 : Nat) : Int) := by omega
    have hx4 : (r : Int) ≤ (lvs.length : Int) + 1 := by omega
    have hxw : IntKind.i64.wrap ((r : Int) + 1) = (r : Int) + 1 := by rw [IntKind.wrap_i64]; omega
    have hcr : ¬ cap2 = r := by omega
    have hPl : (lvPtrs lvs).length = lvs.length := by simp [lvPtrs]
    obtain ⟨cur, hcur, hcl⟩ := ownsRow_cur own3
    have hcsl : ((lvPtrs lvs).drop r).length = lvs.length - r := by rw [List.length_drop, hPl]
    obtain ⟨A, hA, hpos⟩ : ∃ A : Addr, (if cap2 = r + 1 then some (⟨g2, 0, none⟩ : Addr) else some ⟨g2, r + 1, none⟩) = some A ∧
        Hid (0 < ((lvPtrs lvs).drop r).length → some A = some ⟨g2, r + 1, none⟩ ∧ ∃ ad, some (⟨g2, r, none⟩ : Addr) = some ad ∧ ∀ j v, ((lvPtrs lvs).drop r)[j]? = some v → w3.drew.cell? (ad.add j) = some v) := by
      have key : ∀ j v, ((lvPtrs lvs).drop r)[j]? = some v → w3.drew.cell? ((⟨g2, r, none⟩ : Addr).add j) = some v := fun j v hj => by
        rw [List.getElem?_drop] at hj
        have hlt : r + j < (lvPtrs lvs).length := (List.getElem?_eq_some_iff.1 hj).1
        rw [Addr.add_lit]
        show w3.cell? _ = _
        rw [own3.cellAt (r + j) (by omega), List.getElem?_append_left hlt]; exact hj
      by_cases h : cap2 = r + 1
      · exact ⟨⟨g2, 0, none⟩, by simp [h], fun hp => absurd hp (by rw [hcsl]; omega)⟩
      · exact ⟨⟨g2, r + 1, none⟩, by simp [h], fun _ => ⟨rfl, _, rfl, key⟩⟩
    have s1 : Hid (((lvPtrs lvs).drop r).length = Nat.min (lvs.length + 1 - r) (lvs.length - r)) := by
      show _ = _
      rw [hcsl]; show _ = min _ _; omega
    have s2 : Hid (r + 1 + ((lvPtrs lvs).drop r).length ≤ cur.length) := by show _ ≤ _; rw [hcsl, hcl]; omega
    have s3 : Hid (∀ v ∈ (lvPtrs lvs).drop r, v.oneCell' = true) := fun v hv => by
      obtain ⟨l, _, rfl⟩ := List.mem_map.1 (List.mem_of_mem_drop hv); rfl
    have s4 : Hid (w3.drew.heap[g2]? = some (.cells cur.toArray 50 (0, 0))) := hcur
    have nS : ¬ S = g2 := tag_ne top3 hcur (by decide)
    have HO3 : Hid (w3.ownsRow base 50 1 (.slice (some ⟨g2, 0, none⟩) (lvs.length + 1) cap2) (lvs.length + 1) (lvPtrs lvs ++ [.pointer none])) := own3
    have HT3 : Hid (w3.heap[S]? = some (.cells #[.int .u8 side, .slice (some ⟨g2, 0, none⟩) (lvs.length + 1) cap2] 28 (0, 0))) := top3
    clear own3 top3 only3 hcur hcl hcsl hx3 hPl
    go_wp2_with fail
    go_region_held3 (fun w' => w'.cell? ⟨S, 1, none⟩ = some (.slice (some ⟨g2, 0, none⟩) (lvs.length + 1) cap2))
      (first
        | go_keep
        | exact (hgr4.cell_far ⟨S, 1, none⟩ lS3 (by simpa using nS)).trans cS3)
      ((refine step_copy_own (by rfl) (.tmp 74) (.tmp 80) 26 26 (by rfl) 50 Yba.underlying26 (by kernel_rfl) (some A) (some ⟨g2, r, none⟩) (lvs.length - r) (cap2 - (r + 1)) (lvs.length + 1 - r) (cap2 - r) (by rfl) (by rfl) g2 (r + 1) cur 50 s4.out ((lvPtrs lvs).drop r) s1.out hpos.out s2.out s3.out ?_; intro w4 hg4 hgr4))
    obtain ⟨top4, own4, only4, ho4⟩ := ins_w4 HB.out HO.out hrn HT3.out HO3.out HY3.out HG2.out s4.out hg4.out hgr4
    have nO : ¬ o = g2 := by
      obtain ⟨cs, h1, _⟩ := ho4
      exact tag_ne h1 hg4.out (by decide)
    have cS4 := (two_cells top4).2.1
    have co4 := ho4.cell
    have lS4 := lt_of_block top4
    have lo4 := ho4.lt
    obtain ⟨ucg, cg4⟩ : ∃ u, w4.cell? ⟨g2, r, none⟩ = some u := ⟨_, (own4.cellAt r (by omega)).trans (List.getElem?_eq_getElem (by have := own4.1; omega))⟩
    have fg4 := own4.frozenAt r
    have lg4 := World.block_lt_of_cell? w4 _ cg4
    have hx5 : (r : Int) < (lvs.length : Int) + 1 := by omega
    have HO4 : Hid (w4.ownsRow base 50 1 (.slice (some ⟨g2, 0, none⟩) (lvs.length + 1) cap2) (lvs.length + 1) ((lvPtrs lvs ++ [Value.pointer none]).take (r + 1) ++ (lvPtrs lvs).drop r)) := own4
    have HT4 : Hid (w4.heap[S]? = some (.cells #[.int .u8 side, .slice (some ⟨g2, 0, none⟩) (lvs.length + 1) cap2] 28 (0, 0))) := top4
    have HY4 : Hid (Only W w4 (fun k => k = S ∨ (Value.slice (some ⟨g, 0, none⟩) lvs.length cap).ownBlock = some k)) := only4
    clear HO3 HT3 HY3 hg4 hgr4 s1 s2 s3 s4 hpos hA top4 own4 only4 ho4 cS3 hx1 hx2 hx4 hxw hcr lS3 hnc3 hcm3
    go_wp2_with fail
    go_region_held3 (fun w' => w'.cell? ⟨S, 1, none⟩ = some (.slice (some ⟨g2, 0, none⟩) (lvs.length + 1) cap2) ∧ w'.cell? ⟨o, 7, none⟩ = some (.int .i64 p))
      (first
        | (with_reducible exact ⟨kp lS4 nS cS4, kp lo4 nO co4⟩)
        | go_keep)
      (fail)
    go_wp2
    refine bodyPost_end (results_none rfl _ _ _) rfl ?_
    exact ins_end hbW HB.out hrn hF HN.out HT4.out HO4.out HY4.out HG2.out nS
  · have hd : decide ((r : Int) < (lvs.length : Int)) = false := decide_eq_false (by omega)
    clear hv1
    go_wp2_with fail
    go_quiet (fail)
    clear co1 hd cS
    have hbN : Below w1.heap.size w1 (w1.drewN nq) := below_drewN (Below.refl _ _) nq
    have hB2 := hB1.below hbN
    have ho2 := ho1.below hbN
    have hbW : Below w.heap.size w (w1.drewN nq) := hb.trans (hbN.mono hb.size)
    clear hB1 hbN hb ho1 hB
    generalize w1.drewN nq = W at *
    have hv2 := hB2.levels
    have cS := hv2.lvs
    have fS := (two_cells hB2.top).2.2.2
    have lS := lt_of_block hB2.top
    have hbase : base ≤ W.heap.size := Nat.le_trans hB2.geS (Nat.le_of_lt lS)
    have hrow := hB2.row
    have aS : (some S : Option Nat) ≠ (Value.slice ga lvs.length cap).ownBlock := fun e => by
      obtain ⟨_, cg, hcg⟩ := ownsRow_tag hrow e.symm
      exact tag_ne hB2.top hcg (by decide) rfl
    have HB : Hid (BookV base O S side (.slice ga lvs.length cap) lvs W) := hB2
    have HO : Hid (Ord W o p) := ho2
    clear hB2 ho2 hv2
    go_wp2_with (at_builtin; refine wpList_append_lies _ rfl _ _ 26 rfl base 50 i5 _ 1 8 Yba.underlying26 hi5 hz50 hz51 hz52 rfl (by omega) (.slice ga lvs.length cap) lvs.length (lvPtrs lvs) (by rfl) (hrow.alloc _) ⟨W.heap.size, 0, none⟩ 1 1 [.pointer none] rfl rfl (cell_one_new _ _ _) (by simp [Value.oneCell']) (by omega) (by unfold maxLen; omega) (by omega) (by simp; omega) (W.heap.size + 1) (by simp) ?_; intro g2 cap2 w2 hown2 hgrow2 hat2 hlt2; have hcS2 : w2.cell? ⟨S, 1, none⟩ = some _ := (hgrow2.cell_far _ (by simp; omega) aS).trans (cell_later2 (W := W) lS cS); have hfS2 : w2.frozen? ⟨S, 1, none⟩ = false := (hgrow2.frozen_far _ (by simp; omega) aS).trans (frozen_later (W := W) lS fS))
    obtain ⟨top3, own3, only3⟩ := ins_mid HB.out hown2 hgrow2
    have HG2 : Hid ((Value.slice ga lvs.length cap).ownBlock = some g2 ∨ W.heap.size ≤ g2) := hat2.imp id (fun e => by omega)
    clear hcS2 hfS2 hgrow2 hown2 hat2 hlt2 cS fS aS hrow
    generalize w2.setCell ⟨S, 1, none⟩ (.slice (some ⟨g2, 0, none⟩) (lvs.length + 1) cap2) = w3 at *
    have cS3 := (two_cells top3).2.1
    obtain ⟨hx3, hnc3, hcm3⟩ := ownsRow_cap own3
    unfold maxLen at hcm3
    have lS3 := lt_of_block top3
    have HY3 : Hid (Only W w3 (fun k => k = S ∨ (Value.slice ga lvs.length cap).ownBlock = some k)) := only3
    have hx1 : (0 : Int) ≤ (r : Int) + 1 := by omega
    have hx2 : (r : Int) + 1 ≤ ((lvs.length + 1 : Nat) : Int) := by omega
    have hx4 : (r : Int) ≤ (lvs.length : Int) + 1 := by omega
    have hxw : IntKind.i64.wrap ((r : Int) + 1) = (r : Int) + 1 := by rw [IntKind.wrap_i64]; omega
    have hcr : ¬ cap2 = r := by omega
    have hPl : (lvPtrs lvs).length = lvs.length := by simp [lvPtrs]
    obtain ⟨cur, hcur, hcl⟩ := ownsRow_cur own3
    have hcsl : ((lvPtrs lvs).drop r).length = lvs.length - r := by rw [List.length_drop, hPl]
    obtain ⟨A, hA, hpos⟩ : ∃ A : Addr, (if cap2 = r + 1 then some (⟨g2, 0, none⟩ : Addr) else some ⟨g2, r + 1, none⟩) = some A ∧
        Hid (0 < ((lvPtrs lvs).drop r).length → some A = some ⟨g2, r + 1, none⟩ ∧ ∃ ad, some (⟨g2, r, none⟩ : Addr) = some ad ∧ ∀ j v, ((lvPtrs lvs).drop r)[j]? = some v → w3.drew.cell? (ad.add j) = some v) := by
      have key : ∀ j v, ((lvPtrs lvs).drop r)[j]? = some v → w3.drew.cell? ((⟨g2, r, none⟩ : Addr).add j) = some v := fun j v hj => by
        rw [List.getElem?_drop] at hj
        have hlt : r + j < (lvPtrs lvs).length := (List.getElem?_eq_some_iff.1 hj).1
        rw [Addr.add_lit]
        show w3.cell? _ = _
        rw [own3.cellAt (r + j) (by omega), List.getElem?_append_left hlt]; exact hj
      by_cases h : cap2 = r + 1
      · exact ⟨⟨g2, 0, none⟩, by simp [h], fun hp => absurd hp (by rw [hcsl]; omega)⟩
      · exact ⟨⟨g2, r + 1, none⟩, by simp [h], fun _ => ⟨rfl, _, rfl, key⟩⟩
    have s1 : Hid (((lvPtrs lvs).drop r).length = Nat.min (lvs.length + 1 - r) (lvs.length - r)) := by
      show _ = _
      rw [hcsl]; show _ = min _ _; omega
    have s2 : Hid (r + 1 + ((lvPtrs lvs).drop r).length ≤ cur.length) := by show _ ≤ _; rw [hcsl, hcl]; omega
    have s3 : Hid (∀ v ∈ (lvPtrs lvs).drop r, v.oneCell' = true) := fun v hv => by
      obtain ⟨l, _, rfl⟩ := List.mem_map.1 (List.mem_of_mem_drop hv); rfl
    have s4 : Hid (w3.drew.heap[g2]? = some (.cells cur.toArray 50 (0, 0))) := hcur
    have nS : ¬ S = g2 := tag_ne top3 hcur (by decide)
    have HO3 : Hid (w3.ownsRow base 50 1 (.slice (some ⟨g2, 0, none⟩) (lvs.length + 1) cap2) (lvs.length + 1) (lvPtrs lvs ++ [.pointer none])) := own3
    have HT3 : Hid (w3.heap[S]? = some (.cells #[.int .u8 side, .slice (some ⟨g2, 0, none⟩) (lvs.length + 1) cap2] 28 (0, 0))) := top3
    clear own3 top3 only3 hcur hcl hcsl hx3 hPl
    go_wp2_with fail
    go_region_held3 (fun w' => w'.cell? ⟨S, 1, none⟩ = some (.slice (some ⟨g2, 0, none⟩) (lvs.length + 1) cap2))
      (first
        | go_keep
        | exact (hgr4.cell_far ⟨S, 1, none⟩ lS3 (by simpa using nS)).trans cS3)
      ((refine step_copy_own (by rfl) (.tmp 74) (.tmp 80) 26 26 (by rfl) 50 Yba.underlying26 (by kernel_rfl) (some A) (some ⟨g2, r, none⟩) (lvs.length - r) (cap2 - (r + 1)) (lvs.length + 1 - r) (cap2 - r) (by rfl) (by rfl) g2 (r + 1) cur 50 s4.out ((lvPtrs lvs).drop r) s1.out hpos.out s2.out s3.out ?_; intro w4 hg4 hgr4))
    obtain ⟨top4, own4, only4, ho4⟩ := ins_w4 HB.out HO.out hrn HT3.out HO3.out HY3.out HG2.out s4.out hg4.out hgr4
    have nO : ¬ o = g2 := by
      obtain ⟨cs, h1, _⟩ := ho4
      exact tag_ne h1 hg4.out (by decide)
    have cS4 := (two_cells top4).2.1
    have co4 := ho4.cell
    have lS4 := lt_of_block top4
    have lo4 := ho4.lt
    obtain ⟨ucg, cg4⟩ : ∃ u, w4.cell? ⟨g2, r, none⟩ = some u := ⟨_, (own4.cellAt r (by omega)).trans (List.getElem?_eq_getElem (by have := own4.1; omega))⟩
    have fg4 := own4.frozenAt r
    have lg4 := World.block_lt_of_cell? w4 _ cg4
    have hx5 : (r : Int) < (lvs.length : Int) + 1 := by omega
    have HO4 : Hid (w4.ownsRow base 50 1 (.slice (some ⟨g2, 0, none⟩) (lvs.length + 1) cap2) (lvs.length + 1) ((lvPtrs lvs ++ [Value.pointer none]).take (r + 1) ++ (lvPtrs lvs).drop r)) := own4
    have HT4 : Hid (w4.heap[S]? = some (.cells #[.int .u8 side, .slice (some ⟨g2, 0, none⟩) (lvs.length + 1) cap2] 28 (0, 0))) := top4
    have HY4 : Hid (Only W w4 (fun k => k = S ∨ (Value.slice ga lvs.length cap).ownBlock = some k)) := only4
    clear HO3 HT3 HY3 hg4 hgr4 s1 s2 s3 s4 hpos hA top4 own4 only4 ho4 cS3 hx1 hx2 hx4 hxw hcr lS3 hnc3 hcm3
    go_wp2_with fail
    go_region_held3 (fun w' => w'.cell? ⟨S, 1, none⟩ = some (.slice (some ⟨g2, 0, none⟩) (lvs.length + 1) cap2) ∧ w'.cell? ⟨o, 7, none⟩ = some (.int .i64 p))
      (first
        | (with_reducible exact ⟨kp lS4 nS cS4, kp lo4 nO co4⟩)
        | go_keep)
      (fail)
    go_wp2
    refine bodyPost_end (results_none rfl _ _ _) rfl ?_
    exact ins_end hbW HB.out hrn hF HN.out HT4.out HO4.out HY4.out HG2.out nS
end Go.Proofs.Ybulkdoqg
