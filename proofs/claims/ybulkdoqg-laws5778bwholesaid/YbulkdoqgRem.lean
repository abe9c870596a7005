import Derived.Test.YbulkdoqgNew
namespace Go.Proofs.Ybulkdoqg
open Go.RowKit

theorem First.unique {side p : Int} {n : Nat} {q : Nat → Int} {r r' : Nat} (h : First side p n q r) (h' : First side p n q r') : r = r' := by
  rcases Nat.lt_trichotomy r r' with hlt | e | hlt
  · have h1 := h'.before r hlt
    have h2 := h.behind r (Nat.le_refl _) (by have := h'.le; omega)
    rw [h1] at h2; cases h2
  · exact e
  · have h1 := h.before r' hlt
    have h2 := h'.behind r' (Nat.le_refl _) (by have := h.le; omega)
    rw [h1] at h2; cases h2

theorem add_any (base O S o : Nat) (side p : Int) (lvs : List Lv) (w : World) (hB : Book base O S side lvs w) (ho : Ord w o p) (hlen : lvs.length ≤ 4096) (hol : ∀ (i : Nat) (l : Lv), lvs[i]? = some l → l.ords.length ≤ 4096)
    (hmono : ∀ i j, i ≤ j → j < lvs.length → wrs side (Lp lvs i) p = false → wrs side (Lp lvs j) p = false) :
    Calls Yba.prog 4 #[ptr S, ptr o] w (AddPost base O S o side p lvs w) := by
  by_cases h : ∃ (r : Nat) (l : Lv), First side p lvs.length (Lp lvs) r ∧ lvs[r]? = some l ∧ l.price = p
  · obtain ⟨r, l, hF, hl, hp⟩ := h
    exact add_found base O S o r side p lvs l w hB ho hlen hol hmono (fun r' h' => h'.unique hF) hl hp
  · exact add_new base O S o side p lvs w hB ho hlen hmono (fun r l hF hl hp => h ⟨r, l, hF, hl, hp⟩)

def RemPost (base O S r j : Nat) (side : Int) (lvs : List Lv) (l : Lv) (w : World) (e : Ending) (w' : World) : Prop :=
  e = .returned (.tuple #[]) ∧ Kept base O w w' ∧ ∃ lvs' : List Lv, Book base O S side lvs' w' ∧
    ((l.ords.length = 1 ∧ lvs' = lvs.eraseIdx r) ∨ (l.ords.length ≠ 1 ∧ lvs' = lvs.set r { l with ords := l.ords.eraseIdx j }))

set_option maxRecDepth 1000000 in
set_option maxHeartbeats 3200000 in
theorem remove_any (base O S o r j : Nat) (side p : Int) (lvs : List Lv) (l : Lv) (w : World) (hB : Book base O S side lvs w) (ho : Ord w o p) (hlen : lvs.length ≤ 4096) (hol : l.ords.length ≤ 4096)
    (hmono : ∀ i j, i ≤ j → j < lvs.length → wrs side (Lp lvs i) p = false → wrs side (Lp lvs j) p = false)
    (hFr : ∀ r', First side p lvs.length (Lp lvs) r' → r' = r) (hl : lvs[r]? = some l)
    (hj : l.ords[j]? = some o) (hne : ∀ i, i < j → l.ords[i]? ≠ some o) (hpl : ∀ b ∈ l.ords, Plain w b) :
    Calls Yba.prog 5 #[ptr S, ptr o] w (RemPost base O S r j side lvs l w) := by
  have HM : Hid (∀ i j, i ≤ j → j < lvs.length → wrs side (Lp lvs i) p = false → wrs side (Lp lvs j) p = false) := hmono
  have HF : Hid (∀ r', First side p lvs.length (Lp lvs) r' → r' = r) := hFr
  have HN : Hid (∀ i, i < j → l.ords[i]? ≠ some o) := hne
  have HP : Hid (∀ b ∈ l.ords, Plain w b) := hpl
  clear hmono hFr hne hpl
  have hrn : r < lvs.length := (List.getElem?_eq_some_iff.1 hl).1
  have hjn : j < l.ords.length := (List.getElem?_eq_some_iff.1 hj).1
  obtain ⟨v, hB⟩ := hB
  obtain ⟨ga, cap, rfl⟩ := hB.slice
  have hv := hB.levels
  have co := ho.cell
  go_enter Yba.func5, Yba.ntmps5
  go_wp2_with fail
  refine (search_any S lvs.length cap side p ga (Lb lvs) (Lp lvs) w hv (by omega) HM.out).mono ?_
  rintro e w1 ⟨r', rfl, hF, hb⟩
  obtain rfl : r' = r := HF.out r' hF
  have hB1 := hB.below hb
  have hv1 := hB1.levels
  have cS := hv1.lvs
  obtain ⟨g, rfl, hg⟩ := hv1.row r' hrn
  rw [Lb_at hl] at hg
  have ha1 := hB1.lv r' l hl
  have hL1 := (two_cells ha1.blk).2.1
  have hLf := (two_cells ha1.blk).2.2.2
  have HB1 : Hid (BookV base O S side (.slice (some ⟨g, 0, none⟩) lvs.length cap) lvs w1) := hB1
  have HA1 : Hid (LvAt base w1 l) := ha1
  obtain ⟨oF, hoF⟩ : ∃ oF : Nat → Nat, ∀ i b, l.ords[i]? = some b → oF i = b := ⟨fun i => (l.ords[i]?).getD 0, fun i b h => by simp [h]⟩
  have ej : oF j = o := hoF j o hj
  have hI := Index_any l.row l.ords.length l.cap j oF w1 hjn (by omega)
    (fun i hi => by
      have hx := List.getElem?_eq_getElem hi
      rw [ha1.own.cellAt i (by omega), List.getElem?_map, hx, hoF i _ hx]; rfl)
    (fun i hi => by
      have hx := List.getElem?_eq_getElem hi
      rw [hoF i _ hx]
      obtain ⟨cs, t, hc⟩ := HP.out _ (List.getElem_mem hi)
      exact ⟨cs, t, by rw [hb.block _ (lt_of_block hc)]; exact hc⟩)
    (fun i hi e => by
      have hx := List.getElem?_eq_getElem (show i < l.ords.length by omega)
      rw [hoF i _ hx, ej] at e
      exact HN.out i hi (by rw [hx, e]))
  rw [ej] at hI
  have HI : Hid (Calls Yba.prog 8 #[.slice (some ⟨l.row, 0, none⟩) l.ords.length l.cap, .pointer (some ⟨o, 0, none⟩)] w1 fun e w' => e = .returned (.int .i64 j) ∧ w' = w1) := hI
  have hD := DeleteO_any base l.row l.ords.length l.cap j (l.ords.map ptr) w1 hjn (fun u hu => by obtain ⟨x, _, rfl⟩ := List.mem_map.1 hu; rfl) ha1.own
  have HD : Hid (Calls Yba.prog 9 #[.slice (some ⟨l.row, 0, none⟩) l.ords.length l.cap, .int .i64 j, .int .i64 ((j : Int) + 1)] w1 fun e w' =>
      e = .returned (.slice (some ⟨l.row, 0, none⟩) (l.ords.length - 1) l.cap) ∧ w'.ownsRow base 30 1 (.slice (some ⟨l.row, 0, none⟩) (l.ords.length - 1) l.cap) (l.ords.length - 1) ((l.ords.map ptr).eraseIdx j) ∧ w1.grownBy w' (some l.row)) := hD
  clear hv co hv1 hB hB1 hI hD ej
  go_wp2_with fail
  refine HI.out.mono ?_
  rintro e w2 ⟨rfl, rfl⟩
  clear HI
  go_wp2_with fail
  refine HD.out.mono ?_
  rintro e w3 ⟨rfl, hown3, hgr3⟩
  clear HD
  have hon3 : Only w2 w3 (fun k => l.row = k) := (Only.of_grown hgr3).mono (fun k _ e => by simpa using e)
  have hbr : ¬ l.row = l.blk := fun e => by
    obtain ⟨_, cr, hcr⟩ := ha1.row_tag
    exact tag_ne hcr ha1.blk (by decide) e
  have b3 : w3.heap[l.blk]? = w2.heap[l.blk]? := hon3.block _ (lt_of_block ha1.blk) hbr
  have c3 : w3.cell? ⟨l.blk, 1, none⟩ = some _ := (World.cell?_of_block (w := w2) (a := ⟨l.blk, 1, none⟩) b3).trans hL1
  have f3 : w3.frozen? ⟨l.blk, 1, none⟩ = false := (World.frozen?_of_block (w := w2) (a := ⟨l.blk, 1, none⟩) b3).trans hLf
  have el : (l.ords.eraseIdx j).length = l.ords.length - 1 := by rw [List.length_eraseIdx, if_pos hjn]
  have em : (l.ords.map ptr).eraseIdx j = (l.ords.eraseIdx j).map ptr := by
    apply List.ext_getElem?
    intro i
    rw [List.getElem?_map, List.getElem?_eraseIdx, List.getElem?_eraseIdx, List.getElem?_map, List.getElem?_map]
    split <;> rfl
  obtain ⟨hB4, hK4⟩ := HB1.out.turn hl (l.ords.eraseIdx j) l.row l.cap (by rw [el, ← em]; exact hown3) hon3 (.inl rfl)
  rw [el] at hB4 hK4
  replace hK4 : Kept base O w _ := (Kept.of_below hb).trans hK4
  have HB4 : Hid (BookV base O S side (.slice (some ⟨g, 0, none⟩) lvs.length cap) (lvs.set r' { l with ords := l.ords.eraseIdx j }) (w3.setCell ⟨l.blk, 1, none⟩ (.slice (some ⟨l.row, 0, none⟩) (l.ords.length - 1) l.cap))) := hB4
  have HK4 : Hid (Kept base O w (w3.setCell ⟨l.blk, 1, none⟩ (.slice (some ⟨l.row, 0, none⟩) (l.ords.length - 1) l.cap))) := hK4
  have hB4' := HB4.out
  have t4 := two_cells hB4'.top
  have cS4 := t4.2.1
  have fS4 := t4.2.2.2
  clear hK4 em hown3 hgr3 hon3 b3 ha1 HA1 HB1 hg cS hb t4 hB4'
  by_cases h1 : l.ords.length = 1
  · have hz : (((l.ords.length - 1 : Nat) : Int) == 0) = true := beq_iff_eq.2 (by omega)
    have hls : (lvs.set r' { l with ords := l.ords.eraseIdx j }).length = lvs.length := List.length_set
    have hrow4 := hB4.row
    rw [hls] at hrow4
    have hD := DeleteL_any base g lvs.length cap r' (lvPtrs (lvs.set r' { l with ords := l.ords.eraseIdx j })) _ hrn (fun u hu => by obtain ⟨x, _, rfl⟩ := List.mem_map.1 hu; rfl) hrow4
    have HD : Hid (Calls Yba.prog 10 #[.slice (some ⟨g, 0, none⟩) lvs.length cap, .int .i64 r', .int .i64 ((r' : Int) + 1)] (w3.setCell ⟨l.blk, 1, none⟩ (.slice (some ⟨l.row, 0, none⟩) (l.ords.length - 1) l.cap)) fun e w' =>
      e = .returned (.slice (some ⟨g, 0, none⟩) (lvs.length - 1) cap) ∧ w'.ownsRow base 50 1 (.slice (some ⟨g, 0, none⟩) (lvs.length - 1) cap) (lvs.length - 1) ((lvPtrs (lvs.set r' { l with ords := l.ords.eraseIdx j })).eraseIdx r') ∧
        (w3.setCell ⟨l.blk, 1, none⟩ (.slice (some ⟨l.row, 0, none⟩) (l.ords.length - 1) l.cap)).grownBy w' (some g)) := hD
    have H1 : Hid (l.ords.length = 1) := h1
    have HLS : Hid ((lvs.set r' { l with ords := l.ords.eraseIdx j }).length = lvs.length) := hls
    clear hD hrow4 hB4 h1 hls
    go_wp2_with fail
    refine HD.out.mono ?_
    rintro e w5 ⟨rfl, hown5, hgr5⟩
    clear HD
    have hB4 := HB4.out
    have hls := HLS.out
    generalize w3.setCell ⟨l.blk, 1, none⟩ (.slice (some ⟨l.row, 0, none⟩) (l.ords.length - 1) l.cap) = w4 at *
    have hon5 : Only w4 w5 (fun k => g = k) := (Only.of_grown hgr5).mono (fun k _ e => by simpa using e)
    have nSg : ¬ g = S := fun e => by
      obtain ⟨_, cg, hcg⟩ := ownsRow_tag hB4.row rfl
      exact tag_ne hcg hB4.top (by decide) e
    have b5 : w5.heap[S]? = w4.heap[S]? := hon5.block _ (lt_of_block hB4.top) nSg
    have c5 : w5.cell? ⟨S, 1, none⟩ = some _ := (World.cell?_of_block (w := w4) (a := ⟨S, 1, none⟩) b5).trans cS4
    have f5 : w5.frozen? ⟨S, 1, none⟩ = false := (World.frozen?_of_block (w := w4) (a := ⟨S, 1, none⟩) b5).trans fS4
    have hfin := hB4.drop (r := r') (v' := .slice (some ⟨g, 0, none⟩) (lvs.length - 1) cap) (wf := w5.setCell ⟨S, 1, none⟩ (.slice (some ⟨g, 0, none⟩) (lvs.length - 1) cap)) (by rw [hls]; exact hrn)
      (two_set1 (by rw [b5]; exact hB4.top))
      (by
        rw [hls]
        exact ownsRow_of hown5 (fun k hk => by cases hk; exact Below.heap_setCell _ _ _ _ nSg))
      ((hon5.mono (fun k _ e => .inr (by rw [← e]; rfl))).setCell _ (.inl rfl) _)
    have HFN : Hid (RemPost base O S r' j side lvs l w (.returned (.tuple #[])) (w5.setCell ⟨S, 1, none⟩ (.slice (some ⟨g, 0, none⟩) (lvs.length - 1) cap))) := by
      refine ⟨rfl, HK4.out.trans hfin.2, _, ⟨_, hfin.1⟩, .inl ⟨H1.out, ?_⟩⟩
      apply List.ext_getElem?
      intro i
      rw [List.getElem?_eraseIdx, List.getElem?_eraseIdx]
      split
      · rw [List.getElem?_set, if_neg (by omega)]
      · rw [List.getElem?_set, if_neg (by omega)]
    clear hfin hown5 hgr5 hon5 b5 hB4 hls
    go_wp2
    refine bodyPost_end (results_none rfl _ _ _) rfl ?_
    exact HFN.out
  · have hz : (((l.ords.length - 1 : Nat) : Int) == 0) = false := beq_eq_false_iff_ne.2 (by omega)
    clear hB4
    go_wp2
    refine bodyPost_end (results_none rfl _ _ _) rfl ?_
    exact ⟨rfl, HK4.out, _, ⟨_, HB4.out⟩, .inr ⟨h1, rfl⟩⟩
end Go.Proofs.Ybulkdoqg
