import Derived.Test.YbulkdoqgRem
import Derived.Test.YbulkdoqgPlain
import Derived.Deep.OwnRows
namespace Go.Proofs.Ybulkdoqg
open Go.RowKit
set_option linter.unusedSimpArgs false

def zero45 : Array Value := #[.string ⟨#[]⟩, .string ⟨#[]⟩, .string ⟨#[]⟩, .int .u8 0, .int .u8 0, .int .u8 0, .int .i64 0, .int .i64 0, .int .u8 0, .int .u8 0, .int .u16 0, .bool false, .int .u8 0, .int .i64 0, .int .i64 0, .int .i64 0, .pointer none]

/-- The first loop's state: k orders made and added. -/
structure Laid (base O S n : Nat) (side : Int) (P : Nat → Int) (w : World) (k : Nat) (Ob : Nat → Nat) (lvs : List Lv) (wr : World) : Prop where
  book : Book base O S side lvs wr
  good : LvGood side P Ob (fun _ => true) k lvs
  ord : ∀ m, m < k → Ord wr (Ob m) (P m)
  inj : ∀ i j, i < j → j < k → Ob i ≠ Ob j
  arr : ∃ xs, wr.ownsRow base 30 1 (.slice (some ⟨O, 0, none⟩) n n) n xs ∧ ∀ m, m < k → xs[m]? = some (ptr (Ob m))
  below : Below base w wr
  len : lvs.length ≤ k

theorem Laid.start {w : World} (n : Nat) (side : Int) (P : Nat → Int) (Ob : Nat → Nat) (hn : n ≤ maxLen) :
    Laid w.heap.size (w.heap.size + 1) w.heap.size n side P w 0 Ob [] ((w.alloc (.cells #[.int .u8 side, .slice none 0 0] 28)).alloc (.cells (madeCells #[.pointer none] n) 30)) := by
  have hb1 : Below w.heap.size w (w.alloc (.cells #[.int .u8 side, .slice none 0 0] 28)) := (Below.refl _ _).alloc (Nat.le_refl _) _
  have hO : ((w.alloc (.cells #[.int .u8 side, .slice none 0 0] 28)).alloc (.cells (madeCells #[.pointer none] n) 30)).heap[w.heap.size + 1]? = some (.cells (madeCells #[.pointer none] n) 30 (0, 0)) := by
    have := heap_alloc_new (w.alloc (.cells #[.int .u8 side, .slice none 0 0] 28)) (.cells (madeCells #[.pointer none] n) 30)
    rwa [show (w.alloc (.cells #[.int .u8 side, .slice none 0 0] 28)).heap.size = w.heap.size + 1 by simp] at this
  refine ⟨⟨.slice none 0 0, ?_, World.ownsRow_nil _ _ _ _, fun i l h => by simp at h, fun i j a b _ h => by simp at h, Nat.le_refl _, fun i l h => by simp at h, ⟨_, hO⟩, fun i l h => by simp at h⟩, LvGood.nil _ _ _ _, fun m hm => absurd hm (by omega), fun i j _ hj => absurd hj (by omega), ?_, hb1.alloc (by simp) _, Nat.le_refl _⟩
  · rw [Below.heap_alloc _ _ _ (by simp)]; exact heap_alloc_new w _
  · refine ⟨(madeCells #[Value.pointer none] n).toList, ?_, fun m hm => absurd hm (by omega)⟩
    have := World.ownsRow_lit (base := w.heap.size) (e := 30) (size := 1) (w.alloc (.cells #[.int .u8 side, .slice none 0 0] 28)) (madeCells #[.pointer none] n) n (by simp) hn (by simp [madeCells])
    rwa [show (w.alloc (.cells #[.int .u8 side, .slice none 0 0] 28)).heap.size = w.heap.size + 1 by simp] at this

theorem BookV.setO {base O S : Nat} {side : Int} {v : Value} {lvs : List Lv} {w : World} (h : BookV base O S side v lvs w) (k : Nat) (u : Value) : BookV base O S side v lvs (w.setCell ⟨O, k, none⟩ u) := by
  obtain ⟨cO, hcO⟩ := h.isO
  have hold : ∀ b : Nat, b ≠ O → (w.setCell ⟨O, k, none⟩ u).heap[b]? = w.heap[b]? := fun b hb => Below.heap_setCell _ _ _ _ hb
  refine ⟨by rw [hold S (tag_ne h.top hcO (by decide))]; exact h.top, ownsRow_of h.row (fun g hg => ?_), fun i l hl => ?_, h.inj, h.geS, h.ge, ⟨_, heap_setCell_same w O k cO 30 u hcO⟩, h.away⟩
  · obtain ⟨_, cs, hc⟩ := ownsRow_tag h.row hg
    exact hold g (tag_ne hc hcO (by decide))
  · have ha := h.lv i l hl
    exact ha.of (hold _ (tag_ne ha.blk hcO (by decide))) (hold _ (h.away i l hl))

theorem LvGood.congr {side : Int} {P : Nat → Int} {Ob Ob' : Nat → Nat} {D : Nat → Bool} {k : Nat} {lvs : List Lv} (h : LvGood side P Ob D k lvs) (e : ∀ m, m < k → Ob m = Ob' m) : LvGood side P Ob' D k lvs :=
  ⟨h.sorted, fun i l hl => ⟨(h.ords i l hl).1.trans (List.map_congr_left (fun m hm => e m (mem_rem.1 hm).1)), (h.ords i l hl).2⟩, h.cover⟩

theorem rem_len (P : Nat → Int) (D : Nat → Bool) (k : Nat) (p : Int) : (rem P D k p).length ≤ k := by
  have := List.length_filter_le (fun m => D m && P m == p) (List.range k)
  simpa [rem] using this

theorem LvGood.ords_len {side : Int} {P : Nat → Int} {Ob : Nat → Nat} {D : Nat → Bool} {k : Nat} {lvs : List Lv} (h : LvGood side P Ob D k lvs) (i : Nat) (l : Lv) (hl : lvs[i]? = some l) : l.ords.length ≤ k := by
  rw [(h.ords i l hl).1, List.length_map]; exact rem_len _ _ _ _

/-- an order's cells, its price p -/
def ordCells (p : Int) : Array Value := #[.string ⟨#[]⟩, .string ⟨#[]⟩, .string ⟨#[]⟩, .int .u8 0, .int .u8 0, .int .u8 0, .int .i64 0, .int .i64 p, .int .u8 0, .int .u8 0, .int .u16 0, .bool false, .int .u8 0, .int .i64 0, .int .i64 0, .int .i64 0, .pointer none]

/-- the world with a new order made and laid into the array -/
def madeW (O k : Nat) (p : Int) (wr : World) : World := (wr.setCell ⟨O, k, none⟩ (ptr wr.heap.size)).alloc (.cells (ordCells p) 45)

theorem Laid.made {base O S n k : Nat} {side : Int} {P : Nat → Int} {w wr : World} {Ob : Nat → Nat} {lvs : List Lv} (h : Laid base O S n side P w k Ob lvs wr) (hbO : base ≤ O) (hk : k < n) :
    Book base O S side lvs (madeW O k (P k) wr) ∧ Ord (madeW O k (P k) wr) wr.heap.size (P k) ∧ (∀ m, m < k → Ord (madeW O k (P k) wr) (Ob m) (P m)) ∧ (∀ m, m < k → Ob m < wr.heap.size) ∧
    (∃ xs, (madeW O k (P k) wr).ownsRow base 30 1 (.slice (some ⟨O, 0, none⟩) n n) n xs ∧ (∀ m, m < k → xs[m]? = some (ptr (Ob m))) ∧ xs[k]? = some (ptr wr.heap.size)) ∧ Below base w (madeW O k (P k) wr) := by
  obtain ⟨v, hB⟩ := h.book
  obtain ⟨xs, hown, hxs⟩ := h.arr
  have hs : (wr.setCell ⟨O, k, none⟩ (ptr wr.heap.size)).heap.size = wr.heap.size := by simp [World.setCell]
  have hb0 : base ≤ wr.heap.size := Nat.le_trans hB.geS (Nat.le_of_lt (lt_of_block hB.top))
  have hB1 := hB.setO k (ptr wr.heap.size)
  have hbel : Below (wr.setCell ⟨O, k, none⟩ (ptr wr.heap.size)).heap.size (wr.setCell ⟨O, k, none⟩ (ptr wr.heap.size)) (madeW O k (P k) wr) := (Below.refl _ _).alloc (Nat.le_refl _) _
  have hnew : (madeW O k (P k) wr).heap[wr.heap.size]? = some (.cells (ordCells (P k)) 45 (0, 0)) := by
    have := heap_alloc_new (wr.setCell ⟨O, k, none⟩ (ptr wr.heap.size)) (.cells (ordCells (P k)) 45)
    rwa [hs] at this
  obtain ⟨cO, hcO⟩ := hB.isO
  refine ⟨⟨v, hB1.below hbel⟩, ⟨_, hnew, rfl⟩, fun m hm => ?_, fun m hm => (h.ord m hm).lt, ⟨xs.set k (ptr wr.heap.size), ?_, fun m hm => ?_, ?_⟩, ?_⟩
  · have ho := h.ord m hm
    obtain ⟨cs, h1, _⟩ := ho
    exact ((h.ord m hm).of_block (Below.heap_setCell _ _ _ _ (tag_ne h1 hcO (by decide)))).below hbel
  · exact ((hown.stored k (ptr wr.heap.size)).1).alloc _
  · rw [List.getElem?_set, if_neg (by omega)]; exact hxs m hm
  · rw [List.getElem?_set, if_pos rfl, if_pos (by have := hown.1; omega)]
  · exact (h.below.setCell hbO _).alloc (by rw [hs]; exact hb0) _

theorem Laid.added {base O S n k : Nat} {side : Int} {P : Nat → Int} {w wr w' : World} {Ob : Nat → Nat} {lvs : List Lv} {e : Ending} (h : Laid base O S n side P w k Ob lvs wr) (hbO : base ≤ O) (hk : k < n)
    (hA : AddPost base O S wr.heap.size side (P k) lvs (madeW O k (P k) wr) e w') : e = .returned (.tuple #[]) ∧ ∃ Ob' lvs', Laid base O S n side P w (k + 1) Ob' lvs' w' := by
  obtain ⟨hB, hO, hOs, hlt, ⟨xs, hown, hxs, hxk⟩, hbel⟩ := h.made hbO hk
  obtain ⟨he, hK, r, lvs', hF, hB', hcases⟩ := hA
  have hlO : O < (madeW O k (P k) wr).heap.size := by
    obtain ⟨_, cs, hc⟩ := ownsRow_tag hown rfl
    exact lt_of_block hc
  have eOb : ∀ m, m < k → Ob m = (if m < k then Ob m else wr.heap.size) := fun m hm => by rw [if_pos hm]
  have eK : (if k < k then Ob k else wr.heap.size) = wr.heap.size := by rw [if_neg (by omega)]
  refine ⟨he, fun m => if m < k then Ob m else wr.heap.size, lvs', ?_, ?_, ?_, ?_, ⟨xs, ?_, ?_⟩, ?_, ?_⟩
  · exact hB'
  · have hg := h.good.congr eOb
    rcases hcases with ⟨l, gg, cap', hl, hp, rfl⟩ | ⟨hno, x, hp, ho, rfl⟩
    · exact hg.pushed hl hp rfl (by simp)
    · exact hg.inserted hF hno hp (by rw [ho]; simp)
  · intro m hm
    by_cases c : m < k
    · simp only [if_pos c]; exact (hOs m c).kept hK
    · have : m = k := by omega
      subst this
      simp only [if_neg c]; exact hO.kept hK
  · intro i j hij hj
    have hi : i < k := by omega
    simp only [if_pos hi]
    by_cases c : j < k
    · simp only [if_pos c]; exact h.inj i j hij c
    · simp only [if_neg c]; have := hlt i hi; omega
  · exact ownsRow_of hown (fun g hg => by cases hg; exact hK.block O hlO (.inr (.inl rfl)))
  · intro m hm
    by_cases c : m < k
    · simp only [if_pos c]; exact hxs m c
    · have : m = k := by omega
      subst this
      simp only [if_neg c]; exact hxk
  · refine hbel.trans ⟨hK.os, hK.tape, hK.output, hK.size, fun i hi => hK.block i ?_ (.inl hi)⟩
    exact Nat.lt_of_lt_of_le hi (Nat.le_of_lt (Nat.lt_of_le_of_lt hbO hlO))
  · have := h.len
    rcases hcases with ⟨l, gg, cap', hl, hp, rfl⟩ | ⟨hno, x, hp, ho, rfl⟩
    · simp; omega
    · have := hF.le; simp; omega

/-- where the order numbered T rests -/
theorem Laid.rests {base O S n : Nat} {side : Int} {P : Nat → Int} {w wr : World} {Ob : Nat → Nat} {lvs : List Lv} (h : Laid base O S n side P w n Ob lvs wr) {T : Nat} (hT : T < n) :
    ∃ (r j : Nat) (l : Lv), lvs[r]? = some l ∧ l.price = P T ∧ First side (P T) lvs.length (Lp lvs) r ∧ (rem P (fun _ => true) n l.price)[j]? = some T ∧ l.ords[j]? = some (Ob T) ∧
      (∀ i, i < j → l.ords[i]? ≠ some (Ob T)) ∧ (∀ b ∈ l.ords, Plain wr b) ∧ l.ords.length ≤ n := by
  obtain ⟨r, l, hl, hp⟩ := h.good.cover T hT rfl
  have hmem : T ∈ rem P (fun _ => true) n l.price := mem_rem.2 ⟨hT, rfl, hp.symm⟩
  obtain ⟨j, hj, hje⟩ := List.getElem_of_mem hmem
  have hj' : (rem P (fun _ => true) n l.price)[j]? = some T := by rw [List.getElem?_eq_getElem hj, hje]
  have ho := (h.good.ords r l hl).1
  have hrn := (List.getElem?_eq_some_iff.1 hl).1
  refine ⟨r, j, l, hl, hp, ⟨by omega, fun i hi => ?_, fun i hi hin => ?_⟩, hj', ?_, fun i hi e => ?_, fun b hb => ?_, h.good.ords_len r l hl⟩
  · have ei := List.getElem?_eq_getElem (show i < lvs.length by omega)
    rw [Lp_some ei, ← hp]; exact h.good.sorted i r _ l hi ei hl
  · have ei := List.getElem?_eq_getElem hin
    rw [Lp_some ei, ← hp]
    rcases Nat.lt_or_ge r i with hlt | hge
    · exact wrs_asymm (h.good.sorted r i l _ hlt hl ei)
    · have : i = r := by omega
      subst this
      rw [ei] at hl; cases hl; exact wrs_irrefl _ _
  · rw [ho, List.getElem?_map, hj']; rfl
  · rw [ho, List.getElem?_map, Option.map_eq_some_iff] at e
    obtain ⟨m, hm, hOb⟩ := e
    have hmm : m ∈ rem P (fun _ => true) n l.price := List.mem_of_getElem? hm
    have hmn := (mem_rem.1 hmm).1
    have hne : m ≠ T := fun e => by
      subst e
      have hnd := rem_nodup P (fun _ => true) n l.price
      have hi' := (List.getElem?_eq_some_iff.1 hm).1
      have := (List.pairwise_iff_getElem.1 hnd) i j hi' hj hi
      rw [(List.getElem?_eq_some_iff.1 hm).2, hje] at this
      exact this rfl
    rcases Nat.lt_or_ge m T with c | c
    · exact h.inj m T c hT hOb
    · exact h.inj T m (by omega) hmn hOb.symm
  · rw [ho] at hb
    obtain ⟨m, hm, rfl⟩ := List.mem_map.1 hb
    exact (h.ord m (mem_rem.1 hm).1).plain

/-- what is left behind the removal -/
structure Left (base O S n : Nat) (side : Int) (P : Nat → Int) (w : World) (T : Nat) (Ob : Nat → Nat) (lvs : List Lv) (wr : World) : Prop where
  book : Book base O S side lvs wr
  good : LvGood side P Ob (but T) n lvs
  ord : ∀ m, m < n → Ord wr (Ob m) (P m)
  arr : ∃ xs, wr.ownsRow base 30 1 (.slice (some ⟨O, 0, none⟩) n n) n xs ∧ ∀ m, m < n → xs[m]? = some (ptr (Ob m))
  below : Below base w wr

theorem Laid.removed {base O S n : Nat} {side : Int} {P : Nat → Int} {w wr w' : World} {Ob : Nat → Nat} {lvs : List Lv} {T r j : Nat} {l : Lv} {e : Ending} (h : Laid base O S n side P w n Ob lvs wr) (hl : lvs[r]? = some l) (hp : l.price = P T)
    (hj : (rem P (fun _ => true) n l.price)[j]? = some T) (hbO : base ≤ O) (hR : RemPost base O S r j side lvs l wr e w') : e = .returned (.tuple #[]) ∧ ∃ lvs', Left base O S n side P w T Ob lvs' w' := by
  obtain ⟨he, hK, lvs', hB', hcases⟩ := hR
  obtain ⟨xs, hown, hxs⟩ := h.arr
  have hlO : O < wr.heap.size := by
    obtain ⟨_, cs, hc⟩ := ownsRow_tag hown rfl
    exact lt_of_block hc
  refine ⟨he, lvs', hB', ?_, fun m hm => (h.ord m hm).kept hK, ⟨xs, ownsRow_of hown (fun g hg => by cases hg; exact hK.block O hlO (.inr (.inl rfl))), hxs⟩, ?_⟩
  · rcases hcases with ⟨h1, rfl⟩ | ⟨h1, rfl⟩
    · exact h.good.dropped hl hp hj h1
    · exact h.good.struck hl hp hj h1 rfl rfl
  · refine h.below.trans ⟨hK.os, hK.tape, hK.output, hK.size, fun i hi => hK.block i ?_ (.inl hi)⟩
    exact Nat.lt_of_lt_of_le hi (Nat.le_of_lt (Nat.lt_of_le_of_lt hbO hlO))

/-- the distinct prices of the first m, in whatever order -/
structure Ded (P : Nat → Int) (m : Nat) (L : List Int) : Prop where
  nodup : L.Nodup
  mem : ∀ p, p ∈ L ↔ ∃ i, i < m ∧ P i = p
  len : L.length ≤ m

theorem Ded.nil (P : Nat → Int) : Ded P 0 [] := ⟨by simp, fun p => ⟨fun h => by simp at h, fun ⟨i, hi, _⟩ => absurd hi (by omega)⟩, Nat.le_refl _⟩
theorem Ded.hit {P : Nat → Int} {m : Nat} {L : List Int} (h : Ded P m L) (hm : P m ∈ L) : Ded P (m + 1) L :=
  ⟨h.nodup, fun p => ⟨fun hp => by obtain ⟨i, hi, e⟩ := (h.mem p).1 hp; exact ⟨i, by omega, e⟩, fun ⟨i, hi, e⟩ => by
    by_cases c : i = m
    · subst c; rw [← e]; exact hm
    · exact (h.mem p).2 ⟨i, by omega, e⟩⟩, by have := h.len; omega⟩
theorem Ded.miss {P : Nat → Int} {m : Nat} {L : List Int} (h : Ded P m L) (hm : P m ∉ L) : Ded P (m + 1) (L ++ [P m]) :=
  ⟨List.nodup_append.2 ⟨h.nodup, by simp, fun a ha b hb e => by simp at hb; subst hb; subst e; exact hm ha⟩, fun p => by
    rw [List.mem_append, List.mem_singleton]
    constructor
    · rintro (hp | rfl)
      · obtain ⟨i, hi, e⟩ := (h.mem p).1 hp; exact ⟨i, by omega, e⟩
      · exact ⟨m, by omega, rfl⟩
    · rintro ⟨i, hi, e⟩
      by_cases c : i = m
      · subst c; exact .inr e.symm
      · exact .inl ((h.mem p).2 ⟨i, by omega, e⟩), by have := h.len; simp; omega⟩

theorem Yba.info2 : (Yba.prog.info? 2).map (fun i => (i.zero, i.size, i.bytes)) = some (some (.int .i64 0), 1, 8) := by kernel_rfl

/-- a slice of ints of the call's own, its shape and its cells -/
theorem ints_own {w : World} {B : Nat} {v : Value} {L : List Int} (h : w.ownsRow B 2 1 v L.length (L.map (Value.int .i64))) :
    ∃ sa sc, v = .slice sa L.length sc ∧ ∀ q, q < L.length → ∃ g, sa = some ⟨g, 0, none⟩ ∧ w.cell? ⟨g, q, none⟩ = some (.int .i64 (L[q]?.getD 0)) ∧ w.frozen? ⟨g, q, none⟩ = false := by
  have ho := h
  rcases h.2 with ⟨rfl, e⟩ | ⟨g, cap, cur, rfl, _⟩
  · rw [e]; exact ⟨_, _, rfl, fun q hq => absurd hq (by omega)⟩
  · refine ⟨_, _, rfl, fun q hq => ⟨g, rfl, ?_, ho.frozenAt q⟩⟩
    rw [ho.cellAt q (by omega)]
    simp [hq]

end Go.Proofs.Ybulkdoqg
