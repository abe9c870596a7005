import Derived.Test.YbulkdoqgDel
import Derived.Deep.AppendLies
import Derived.Laws.StructEq
import Derived.Laws.CopyOwn
namespace Go.Proofs.Ybulkdoqg
open Go.RowKit

theorem eqG34 : Yba.prog.eqGuardType Yba.prog.depth 34 = false := by kernel_rfl
theorem held34 : Yba.prog.stoodInHeld 34 = false := by kernel_rfl
theorem fields34 : ∃ f : Field, (Yba.prog.fieldsOf 34).toList = [f] ∧ f.type = 2 ∧ f.offset = 0 ∧ f.name ≠ "_" :=
  ⟨((Yba.prog.fieldsOf 34)[0]?).getD ⟨"x", 0, 0, false, "", "", 0⟩, by kernel_rfl, by kernel_rfl, by kernel_rfl, of_decide_eq_true (by kernel_rfl)⟩
theorem eql34 (a b : Int) (w : World) : (binOp .eql 34 (.agg #[.int .i64 a]) (.agg #[.int .i64 b])).run Yba.prog w = .ok (.bool (a == b)) w := by
  rw [run_eql_struct, show (10000 : Nat) = 9999 + 1 from rfl, run_equalIn_struct w 9999 34 _ _ (by kernel_rfl) held34]
  obtain ⟨f, hf, h1, h2, h3⟩ := fields34
  rw [hf]
  have hi := run_equalIn_int (P := Yba.prog) w 9998 2 .i64 .i64 a b Yba.underlying2
  have e1 : (part 2 #[Value.int .i64 a] 0).run Yba.prog w = .ok (.int .i64 a) w := by kernel_rfl
  have e2 : (part 2 #[Value.int .i64 b] 0).run Yba.prog w = .ok (.int .i64 b) w := by kernel_rfl
  cases h : (a == b)
  all_goals
    rw [h] at hi
    simp [Op.eqFields, h1, h2, h3, e1, e2, hi]

abbrev ptr (b : Nat) : Value := .pointer (some ⟨b, 0, none⟩)

/-- One level of a book side, as it lies: its block, its price, its queue's row and capacity, its orders' blocks. -/
structure Lv where
  blk : Nat
  price : Int
  row : Nat
  cap : Nat
  ords : List Nat

/-- An order's block: its price lies in cell 7. -/
def Ord (w : World) (o : Nat) (p : Int) : Prop := ∃ cs : Array Value, w.heap[o]? = some (.cells cs 45 (0, 0)) ∧ cs[7]? = some (.int .i64 p)

structure LvAt (base : Nat) (w : World) (l : Lv) : Prop where
  blk : w.heap[l.blk]? = some (.cells #[.int .i64 l.price, .slice (some ⟨l.row, 0, none⟩) l.ords.length l.cap] 52 (0, 0))
  own : w.ownsRow base 30 1 (.slice (some ⟨l.row, 0, none⟩) l.ords.length l.cap) l.ords.length (l.ords.map ptr)

def lvPtrs (lvs : List Lv) : List Value := lvs.map fun l => ptr l.blk

/-- A book side in memory, its levels' slice 'v'. -/
structure BookV (base O S : Nat) (side : Int) (v : Value) (lvs : List Lv) (w : World) : Prop where
  top : w.heap[S]? = some (.cells #[.int .u8 side, v] 28 (0, 0))
  row : w.ownsRow base 50 1 v lvs.length (lvPtrs lvs)
  lv : ∀ (i : Nat) (l : Lv), lvs[i]? = some l → LvAt base w l
  inj : ∀ (i j : Nat) (a b : Lv), i ≠ j → lvs[i]? = some a → lvs[j]? = some b → a.blk ≠ b.blk ∧ a.row ≠ b.row
  geS : base ≤ S
  ge : ∀ (i : Nat) (l : Lv), lvs[i]? = some l → base ≤ l.blk
  isO : ∃ cs, w.heap[O]? = some (.cells cs 30 (0, 0))
  away : ∀ (i : Nat) (l : Lv), lvs[i]? = some l → l.row ≠ O

def Book (base O S : Nat) (side : Int) (lvs : List Lv) (w : World) : Prop := ∃ v, BookV base O S side v lvs w

/-- all old blocks but those of the list are as they were -/
structure Only (w w' : World) (bs : Nat → Prop) : Prop where
  os : w'.os = w.os
  tape : w'.tape = w.tape
  output : w'.output = w.output
  size : w.heap.size ≤ w'.heap.size
  block : ∀ k, k < w.heap.size → ¬ bs k → w'.heap[k]? = w.heap[k]?

theorem Only.refl (w : World) (bs : Nat → Prop) : Only w w bs := ⟨rfl, rfl, rfl, Nat.le_refl _, fun _ _ _ => rfl⟩
theorem Only.trans {a b c : World} {bs : Nat → Prop} (h : Only a b bs) (k : Only b c bs) : Only a c bs :=
  ⟨k.os.trans h.os, k.tape.trans h.tape, k.output.trans h.output, Nat.le_trans h.size k.size, fun i hi hp => (k.block i (Nat.lt_of_lt_of_le hi h.size) hp).trans (h.block i hi hp)⟩
theorem Only.mono {a b : World} {bs cs : Nat → Prop} (h : Only a b bs) (hs : ∀ k, k < a.heap.size → bs k → cs k) : Only a b cs := ⟨h.os, h.tape, h.output, h.size, fun k hk hn => h.block k hk (fun hb => hn (hs k hk hb))⟩
theorem Only.of_below {a b : World} (h : Below a.heap.size a b) (bs : Nat → Prop) : Only a b bs := ⟨h.os, h.tape, h.output, h.size, fun k hk _ => h.block k hk⟩
theorem Only.of_grown {a b : World} {row : Option Nat} (h : a.grownBy b row) : Only a b (fun k => row = some k) := ⟨h.os, h.tape, h.output, h.size, fun k hk hn => h.block k hk (fun e => hn e.symm)⟩
theorem Only.alloc {a b : World} {bs : Nat → Prop} (h : Only a b bs) (o : Obj) : Only a (b.alloc o) bs :=
  h.trans ⟨rfl, rfl, rfl, by simp, fun k hk _ => Below.heap_alloc _ _ _ hk⟩
theorem Only.drew {a b : World} {bs : Nat → Prop} (h : Only a b bs) : Only a b.drew bs := ⟨h.os, h.tape, h.output, h.size, h.block⟩
theorem Only.drewN {a b : World} {bs : Nat → Prop} (h : Only a b bs) (n : Nat) : Only a (b.drewN n) bs := ⟨h.os, h.tape, h.output, h.size, h.block⟩
theorem Only.setCell {a b : World} {bs : Nat → Prop} (h : Only a b bs) (p : Addr) (hp : bs p.block) (u : Value) : Only a (b.setCell p u) bs :=
  h.trans ⟨rfl, rfl, rfl, by simp [World.setCell], fun k hk hn => Below.heap_setCell _ _ _ _ (fun e => hn (e ▸ hp))⟩

/-- What the rest of the call sees of a step on the book: old memory below 'base', block O and the orders are as they were. -/
structure Kept (base O : Nat) (w w' : World) : Prop where
  os : w'.os = w.os
  tape : w'.tape = w.tape
  output : w'.output = w.output
  size : w.heap.size ≤ w'.heap.size
  block : ∀ k, k < w.heap.size → (k < base ∨ k = O ∨ ∃ cs, w.heap[k]? = some (.cells cs 45 (0, 0))) → w'.heap[k]? = w.heap[k]?

theorem Kept.refl (base O : Nat) (w : World) : Kept base O w w := ⟨rfl, rfl, rfl, Nat.le_refl _, fun _ _ _ => rfl⟩
theorem Kept.trans {base O : Nat} {a b c : World} (h : Kept base O a b) (k : Kept base O b c) : Kept base O a c :=
  ⟨k.os.trans h.os, k.tape.trans h.tape, k.output.trans h.output, Nat.le_trans h.size k.size, fun i hi hp => by
    have e := h.block i hi hp
    refine (k.block i (Nat.lt_of_lt_of_le hi h.size) ?_).trans e
    rw [e]; exact hp⟩
theorem Kept.of_below {base O : Nat} {a b : World} (h : Below a.heap.size a b) : Kept base O a b := ⟨h.os, h.tape, h.output, h.size, fun k hk _ => h.block k hk⟩
theorem Kept.of_only {base O : Nat} {a b : World} {bs : Nat → Prop} (h : Only a b bs) (hb : ∀ k, bs k → base ≤ k ∧ k ≠ O ∧ ∀ cs, a.heap[k]? ≠ some (.cells cs 45 (0, 0))) : Kept base O a b :=
  ⟨h.os, h.tape, h.output, h.size, fun k hk hp => h.block k hk (fun hbk => by
    obtain ⟨h1, h2, h3⟩ := hb k hbk
    rcases hp with hp | hp | ⟨cs, hp⟩
    · omega
    · exact h2 hp
    · exact h3 cs hp)⟩

theorem ownsRow_of {w w' : World} {base : Nat} {e : TypeId} {v : Value} {n : Nat} {xs : List Value} (h : w.ownsRow base e 1 v n xs) (hb : ∀ g, v.ownBlock = some g → w'.heap[g]? = w.heap[g]?) : w'.ownsRow base e 1 v n xs := by
  refine ⟨h.1, ?_⟩
  rcases h.2 with hn | ⟨g, cap, cur, rfl, hbg, hgg, rest⟩
  · exact .inl hn
  · exact .inr ⟨g, cap, cur, rfl, hbg, by rw [hb g rfl]; exact hgg, rest⟩

theorem ownsRow_tag {w : World} {base : Nat} {e : TypeId} {v : Value} {n : Nat} {xs : List Value} {g : Nat} (h : w.ownsRow base e 1 v n xs) (hg : v.ownBlock = some g) : base ≤ g ∧ ∃ cs, w.heap[g]? = some (.cells cs e (0, 0)) := by
  rcases h.2 with ⟨rfl, _⟩ | ⟨g', cap, cur, rfl, hbg, hgg, rest⟩
  · cases hg
  · cases hg; exact ⟨hbg, _, hgg⟩

theorem tag_ne {w : World} {a b : Nat} {ca cb : Array Value} {ta tb : TypeId} (ha : w.heap[a]? = some (.cells ca ta (0, 0))) (hb : w.heap[b]? = some (.cells cb tb (0, 0))) (h : ta ≠ tb) : a ≠ b := by
  intro e; subst e; rw [ha] at hb; cases hb; exact h rfl

theorem LvAt.of {l : Lv} {base : Nat} {w w' : World} (h : LvAt base w l) (h1 : w'.heap[l.blk]? = w.heap[l.blk]?) (h2 : w'.heap[l.row]? = w.heap[l.row]?) : LvAt base w' l :=
  ⟨by rw [h1]; exact h.1, ownsRow_of h.2 (fun g hg => by cases hg; exact h2)⟩

theorem LvAt.row_tag {l : Lv} {base : Nat} {w : World} (h : LvAt base w l) : base ≤ l.row ∧ ∃ cs, w.heap[l.row]? = some (.cells cs 30 (0, 0)) := ownsRow_tag h.2 rfl

theorem BookV.below {base O S : Nat} {side : Int} {v : Value} {lvs : List Lv} {w w' : World} (h : BookV base O S side v lvs w) (hb : Below w.heap.size w w') : BookV base O S side v lvs w' := by
  refine ⟨by rw [hb.block S (lt_of_block h.top)]; exact h.top, ownsRow_of h.row (fun g hg => ?_), fun i l hl => ?_, h.inj, h.geS, h.ge, ?_, h.away⟩
  · obtain ⟨_, cs, hc⟩ := ownsRow_tag h.row hg
    exact hb.block g (lt_of_block hc)
  · have ha := h.lv i l hl
    obtain ⟨_, cs, hc⟩ := ha.row_tag
    exact ha.of (hb.block _ (lt_of_block ha.1)) (hb.block _ (lt_of_block hc))
  · obtain ⟨cs, hc⟩ := h.isO
    exact ⟨cs, by rw [hb.block O (lt_of_block hc)]; exact hc⟩

theorem Ord.of_block {w w' : World} {o : Nat} {p : Int} (h : Ord w o p) (e : w'.heap[o]? = w.heap[o]?) : Ord w' o p := by
  obtain ⟨cs, h1, h2⟩ := h
  exact ⟨cs, by rw [e]; exact h1, h2⟩
theorem Ord.lt {w : World} {o : Nat} {p : Int} (h : Ord w o p) : o < w.heap.size := by
  obtain ⟨cs, h1, h2⟩ := h
  exact lt_of_block h1
theorem Ord.below {w w' : World} {o : Nat} {p : Int} (h : Ord w o p) (hb : Below w.heap.size w w') : Ord w' o p := h.of_block (hb.block o h.lt)
theorem Ord.kept {base O : Nat} {w w' : World} {o : Nat} {p : Int} (h : Ord w o p) (hb : Kept base O w w') : Ord w' o p := by
  refine h.of_block (hb.block o h.lt (.inr (.inr ?_)))
  obtain ⟨cs, h1, h2⟩ := h
  exact ⟨cs, h1⟩
theorem Ord.plain {w : World} {o : Nat} {p : Int} (h : Ord w o p) : Plain w o := by
  obtain ⟨cs, h1, h2⟩ := h
  exact ⟨cs, _, h1⟩
theorem Ord.cell {w : World} {o : Nat} {p : Int} (h : Ord w o p) : w.cell? ⟨o, 7, none⟩ = some (.int .i64 p) := by
  obtain ⟨cs, h1, h2⟩ := h
  simp [World.cell?, h1, h2]

/-- the levels' blocks and prices, by number -/
def Lb (lvs : List Lv) (i : Nat) : Nat := (lvs[i]?.map (·.blk)).getD 0
def Lp (lvs : List Lv) (i : Nat) : Int := (lvs[i]?.map (·.price)).getD 0

theorem two_cells {w : World} {b : Nat} {u v : Value} {t : TypeId} (h : w.heap[b]? = some (.cells #[u, v] t (0, 0))) : w.cell? ⟨b, 0, none⟩ = some u ∧ w.cell? ⟨b, 1, none⟩ = some v ∧ w.frozen? ⟨b, 0, none⟩ = false ∧ w.frozen? ⟨b, 1, none⟩ = false := by
  simp [World.cell?, World.frozen?, h]
theorem two_set1 {w : World} {b : Nat} {u v x : Value} {t : TypeId} (h : w.heap[b]? = some (.cells #[u, v] t (0, 0))) : (w.setCell ⟨b, 1, none⟩ x).heap[b]? = some (.cells #[u, x] t (0, 0)) := by
  rw [heap_setCell_same w b 1 _ t x h]; rfl

theorem BookV.slice {base O S : Nat} {side : Int} {v : Value} {lvs : List Lv} {w : World} (h : BookV base O S side v lvs w) : ∃ ga cap, v = .slice ga lvs.length cap := by
  rcases h.row.2 with ⟨rfl, e⟩ | ⟨g, cap, cur, rfl, _⟩
  · rw [e]; exact ⟨_, _, rfl⟩
  · exact ⟨_, _, rfl⟩

theorem BookV.levels {base O S : Nat} {side : Int} {ga : Option Addr} {cap : Nat} {lvs : List Lv} {w : World} (h : BookV base O S side (.slice ga lvs.length cap) lvs w) : Levels w S side ga lvs.length cap (Lb lvs) (Lp lvs) := by
  refine ⟨(two_cells h.top).1, (two_cells h.top).2.1, fun i hi => ?_, fun i hi => ?_⟩
  · have ho := h.row
    rcases h.row.2 with ⟨h0, e⟩ | ⟨g, cap', cur, hv, _⟩
    · omega
    · cases hv
      refine ⟨g, rfl, ?_⟩
      rw [ho.cellAt i (by omega)]
      simp [Lb, lvPtrs, hi]
  · have hl := (h.lv i lvs[i] (List.getElem?_eq_getElem hi)).1
    have := (two_cells hl).1
    simpa [Lb, Lp, hi] using this

/-- Level r's queue turned: its row, its capacity, its orders. -/
theorem BookV.turn {base O S : Nat} {side : Int} {v : Value} {lvs : List Lv} {w w2 : World} (h : BookV base O S side v lvs w) {r : Nat} {l : Lv} (hl : lvs[r]? = some l) (os : List Nat) (gg cap' : Nat)
    (hown : w2.ownsRow base 30 1 (.slice (some ⟨gg, 0, none⟩) os.length cap') os.length (os.map ptr)) (hon : Only w w2 (fun k => l.row = k)) (hat : gg = l.row ∨ w.heap.size ≤ gg) :
    BookV base O S side v (lvs.set r { l with row := gg, cap := cap', ords := os }) (w2.setCell ⟨l.blk, 1, none⟩ (.slice (some ⟨gg, 0, none⟩) os.length cap')) ∧
      Kept base O w (w2.setCell ⟨l.blk, 1, none⟩ (.slice (some ⟨gg, 0, none⟩) os.length cap')) := by
  have ha := h.lv r l hl
  obtain ⟨hge, cr, hcr⟩ := ha.row_tag
  have hrn : r < lvs.length := (List.getElem?_eq_some_iff.1 hl).1
  obtain ⟨cO, hcO⟩ := h.isO
  have hSr : S ≠ l.row := tag_ne h.top hcr (by decide)
  have hSb : S ≠ l.blk := tag_ne h.top ha.1 (by decide)
  have hbr : l.blk ≠ l.row := tag_ne ha.1 hcr (by decide)
  have hold : ∀ k, k < w.heap.size → k ≠ l.row → k ≠ l.blk → (w2.setCell ⟨l.blk, 1, none⟩ (.slice (some ⟨gg, 0, none⟩) os.length cap')).heap[k]? = w.heap[k]? := fun k hk h1 h2 => by
    rw [Below.heap_setCell _ _ _ _ (by simpa using h2)]
    exact hon.block k hk (fun e => h1 e.symm)
  have hblk : w2.heap[l.blk]? = some (.cells #[.int .i64 l.price, .slice (some ⟨l.row, 0, none⟩) l.ords.length l.cap] 52 (0, 0)) := by
    rw [hon.block _ (lt_of_block ha.1) (fun e => hbr e.symm)]; exact ha.1
  have hgb : gg ≠ l.blk := by
    rcases hat with e | e
    · rw [e]; exact hbr.symm
    · have := lt_of_block ha.1; omega
  refine ⟨⟨?_, ?_, ?_, ?_, h.geS, ?_, ?_, ?_⟩, ?_⟩
  · rw [hold S (lt_of_block h.top) hSr hSb]; exact h.top
  · have e : lvPtrs (lvs.set r { l with row := gg, cap := cap', ords := os }) = lvPtrs lvs := by
      unfold lvPtrs
      apply List.ext_getElem?
      intro i
      rw [List.getElem?_map, List.getElem?_map, List.getElem?_set]
      by_cases hir : r = i
      · subst hir; rw [if_pos rfl, if_pos hrn, hl]; rfl
      · rw [if_neg hir]
    rw [e, List.length_set]
    refine ownsRow_of h.row (fun g hg => ?_)
    obtain ⟨_, cs, hc⟩ := ownsRow_tag h.row hg
    exact hold g (lt_of_block hc) (tag_ne hc hcr (by decide)) (tag_ne hc ha.1 (by decide))
  · intro i l' hl'
    rw [List.getElem?_set] at hl'
    by_cases hir : r = i
    · rw [if_pos hir, if_pos hrn] at hl'
      cases hl'
      refine ⟨?_, ?_⟩
      · exact two_set1 hblk
      · exact ownsRow_of hown (fun g hg => by cases hg; exact Below.heap_setCell _ _ _ _ (by simpa using hgb))
    · rw [if_neg hir] at hl'
      have hi := h.inj r i l l' hir hl hl'
      have ha' := h.lv i l' hl'
      obtain ⟨_, cr', hcr'⟩ := ha'.row_tag
      exact ha'.of (hold _ (lt_of_block ha'.1) (tag_ne ha'.1 hcr (by decide)) (Ne.symm hi.1)) (hold _ (lt_of_block hcr') (Ne.symm hi.2) (tag_ne hcr' ha.1 (by decide)))
  · have hnew : ∀ i l', r ≠ i → lvs[i]? = some l' → l.blk ≠ l'.blk ∧ gg ≠ l'.row := fun i l' hir hl' => by
      have hi := h.inj r i l l' hir hl hl'
      refine ⟨hi.1, ?_⟩
      rcases hat with e | e
      · rw [e]; exact hi.2
      · obtain ⟨_, cr', hcr'⟩ := (h.lv i l' hl').row_tag
        have := lt_of_block hcr'; omega
    intro i j a b hij hai hbj
    rw [List.getElem?_set] at hai hbj
    by_cases h1 : r = i
    · rw [if_pos h1, if_pos hrn] at hai
      rw [if_neg (by omega)] at hbj
      cases hai; exact hnew j b (by omega) hbj
    · rw [if_neg h1] at hai
      by_cases h2 : r = j
      · rw [if_pos h2, if_pos hrn] at hbj
        cases hbj; have := hnew i a h1 hai; exact ⟨this.1.symm, this.2.symm⟩
      · rw [if_neg h2] at hbj
        exact h.inj i j a b hij hai hbj
  · intro i l' hl'
    rw [List.getElem?_set] at hl'
    by_cases h1 : r = i
    · rw [if_pos h1, if_pos hrn] at hl'
      cases hl'; exact h.ge r l hl
    · rw [if_neg h1] at hl'; exact h.ge i l' hl'
  · exact ⟨cO, by rw [hold O (lt_of_block hcO) (Ne.symm (h.away r l hl)) (tag_ne hcO ha.1 (by decide))]; exact hcO⟩
  · intro i l' hl'
    rw [List.getElem?_set] at hl'
    by_cases h1 : r = i
    · rw [if_pos h1, if_pos hrn] at hl'
      cases hl'
      rcases hat with e | e
      · show gg ≠ O; rw [e]; exact h.away r l hl
      · show gg ≠ O; have := lt_of_block hcO; omega
    · rw [if_neg h1] at hl'; exact h.away i l' hl'
  · refine Kept.of_only (bs := fun k => l.row = k ∨ l.blk = k) ((hon.mono (fun k _ h => .inl h)).setCell _ (.inr rfl) _) (fun k hk => ?_)
    rcases hk with rfl | rfl
    · exact ⟨hge, h.away r l hl, fun cs hc => tag_ne hcr hc (by decide) rfl⟩
    · exact ⟨h.ge r l hl, tag_ne ha.1 hcO (by decide), fun cs hc => tag_ne ha.1 hc (by decide) rfl⟩

theorem ins_get {α : Type} (xs : List α) (x : α) (r i : Nat) (hr : r ≤ xs.length) : (xs.take r ++ x :: xs.drop r)[i]? = if i < r then xs[i]? else if i = r then some x else xs[i - 1]? := by
  by_cases h : i < r
  · rw [if_pos h, List.getElem?_append_left (by simp; omega), List.getElem?_take, if_pos h]
  · rw [if_neg h, List.getElem?_append_right (by simp; omega), List.length_take, Nat.min_eq_left hr]
    by_cases h2 : i = r
    · subst h2; rw [if_pos rfl, Nat.sub_self]; rfl
    · rw [if_neg h2, show i - r = (i - r - 1) + 1 by omega, List.getElem?_cons_succ, List.getElem?_drop, show r + (i - r - 1) = i - 1 by omega]

theorem BookV.insert {base O S : Nat} {side : Int} {v v' : Value} {lvs : List Lv} {w wf : World} (h : BookV base O S side v lvs w) {r : Nat} (hr : r ≤ lvs.length) (x : Lv)
    (htop : wf.heap[S]? = some (.cells #[.int .u8 side, v'] 28 (0, 0))) (hrow : wf.ownsRow base 50 1 v' (lvs.length + 1) (lvPtrs (lvs.take r ++ x :: lvs.drop r))) (hx : LvAt base wf x)
    (hon : Only w wf (fun k => k = S ∨ v.ownBlock = some k)) (hxb : w.heap.size ≤ x.blk) (hxr : w.heap.size ≤ x.row) :
    BookV base O S side v' (lvs.take r ++ x :: lvs.drop r) wf ∧ Kept base O w wf := by
  obtain ⟨cO, hcO⟩ := h.isO
  have hfoot : ∀ (k : Nat) (cs : Array Value) (t : TypeId), w.heap[k]? = some (.cells cs t (0, 0)) → t ≠ 28 → t ≠ 50 → wf.heap[k]? = w.heap[k]? := fun k cs t hk h1 h2 => by
    refine hon.block k (lt_of_block hk) (fun hb => ?_)
    rcases hb with rfl | hb
    · exact tag_ne hk h.top h1 rfl
    · obtain ⟨_, c2, hc2⟩ := ownsRow_tag h.row hb
      exact tag_ne hk hc2 h2 rfl
  have hold : ∀ i l, lvs[i]? = some l → LvAt base wf l ∧ l.blk < w.heap.size ∧ l.row < w.heap.size := fun i l hl => by
    have ha := h.lv i l hl
    obtain ⟨_, cr, hcr⟩ := ha.row_tag
    exact ⟨ha.of (hfoot _ _ _ ha.blk (by decide) (by decide)) (hfoot _ _ _ hcr (by decide) (by decide)), lt_of_block ha.blk, lt_of_block hcr⟩
  have hbase : base ≤ w.heap.size := Nat.le_trans h.geS (Nat.le_of_lt (lt_of_block h.top))
  have hlen : (lvs.take r ++ x :: lvs.drop r).length = lvs.length + 1 := by simp; omega
  have hcase : ∀ i l, (lvs.take r ++ x :: lvs.drop r)[i]? = some l → (i = r ∧ l = x) ∨ (i ≠ r ∧ ∃ i', lvs[i']? = some l ∧ i' = if i < r then i else i - 1) := fun i l hl => by
    rw [ins_get _ _ _ _ hr] at hl
    by_cases h1 : i < r
    · rw [if_pos h1] at hl; exact .inr ⟨by omega, i, hl, by rw [if_pos h1]⟩
    · rw [if_neg h1] at hl
      by_cases h2 : i = r
      · rw [if_pos h2] at hl; cases hl; exact .inl ⟨h2, rfl⟩
      · rw [if_neg h2] at hl; exact .inr ⟨h2, i - 1, hl, by rw [if_neg h1]⟩
  refine ⟨⟨htop, by rw [hlen]; exact hrow, ?_, ?_, h.geS, ?_, ⟨cO, by rw [hfoot O _ _ hcO (by decide) (by decide)]; exact hcO⟩, ?_⟩, ?_⟩
  · intro i l hl
    rcases hcase i l hl with ⟨_, rfl⟩ | ⟨_, i', hl', _⟩
    · exact hx
    · exact (hold i' l hl').1
  · intro i j a b hij ha hb
    rcases hcase i a ha with ⟨e1, rfl⟩ | ⟨e1, i', ha', hi'⟩
    · rcases hcase j b hb with ⟨e2, rfl⟩ | ⟨e2, j', hb', hj'⟩
      · omega
      · obtain ⟨_, g1, g2⟩ := hold j' b hb'
        exact ⟨by omega, by omega⟩
    · rcases hcase j b hb with ⟨e2, rfl⟩ | ⟨e2, j', hb', hj'⟩
      · obtain ⟨_, g1, g2⟩ := hold i' a ha'
        exact ⟨by omega, by omega⟩
      · refine h.inj i' j' a b ?_ ha' hb'
        rw [hi', hj']
        by_cases c1 : i < r
        · by_cases c2 : j < r
          · rw [if_pos c1, if_pos c2]; exact hij
          · rw [if_pos c1, if_neg c2]; omega
        · by_cases c2 : j < r
          · rw [if_neg c1, if_pos c2]; omega
          · rw [if_neg c1, if_neg c2]; omega
  · intro i l hl
    rcases hcase i l hl with ⟨_, rfl⟩ | ⟨_, i', hl', _⟩
    · omega
    · exact h.ge i' l hl'
  · intro i l hl
    rcases hcase i l hl with ⟨_, rfl⟩ | ⟨_, i', hl', _⟩
    · have := lt_of_block hcO; omega
    · exact h.away i' l hl'
  · refine Kept.of_only hon (fun k hk => ?_)
    rcases hk with rfl | hk
    · exact ⟨h.geS, tag_ne h.top hcO (by decide), fun cs hc => tag_ne h.top hc (by decide) rfl⟩
    · obtain ⟨g1, c2, hc2⟩ := ownsRow_tag h.row hk
      exact ⟨g1, tag_ne hc2 hcO (by decide), fun cs hc => tag_ne hc2 hc (by decide) rfl⟩

theorem BookV.drop {base O S : Nat} {side : Int} {v v' : Value} {lvs : List Lv} {w wf : World} (h : BookV base O S side v lvs w) {r : Nat} (hr : r < lvs.length)
    (htop : wf.heap[S]? = some (.cells #[.int .u8 side, v'] 28 (0, 0))) (hrow : wf.ownsRow base 50 1 v' (lvs.length - 1) ((lvPtrs lvs).eraseIdx r))
    (hon : Only w wf (fun k => k = S ∨ v.ownBlock = some k)) :
    BookV base O S side v' (lvs.eraseIdx r) wf ∧ Kept base O w wf := by
  obtain ⟨cO, hcO⟩ := h.isO
  have hfoot : ∀ (k : Nat) (cs : Array Value) (t : TypeId), w.heap[k]? = some (.cells cs t (0, 0)) → t ≠ 28 → t ≠ 50 → wf.heap[k]? = w.heap[k]? := fun k cs t hk h1 h2 => by
    refine hon.block k (lt_of_block hk) (fun hb => ?_)
    rcases hb with rfl | hb
    · exact tag_ne hk h.top h1 rfl
    · obtain ⟨_, c2, hc2⟩ := ownsRow_tag h.row hb
      exact tag_ne hk hc2 h2 rfl
  have hlen : (lvs.eraseIdx r).length = lvs.length - 1 := by rw [List.length_eraseIdx, if_pos hr]
  have hptr : lvPtrs (lvs.eraseIdx r) = (lvPtrs lvs).eraseIdx r := by
    unfold lvPtrs
    apply List.ext_getElem?
    intro i
    rw [List.getElem?_map, List.getElem?_eraseIdx, List.getElem?_eraseIdx, List.getElem?_map, List.getElem?_map]
    split <;> rfl
  have hcase : ∀ i l, (lvs.eraseIdx r)[i]? = some l → lvs[if i < r then i else i + 1]? = some l := fun i l hl => by
    rw [List.getElem?_eraseIdx] at hl
    by_cases h1 : i < r
    · rw [if_pos h1] at hl ⊢; exact hl
    · rw [if_neg h1] at hl ⊢; exact hl
  refine ⟨⟨htop, by rw [hlen, hptr]; exact hrow, ?_, ?_, h.geS, ?_, ⟨cO, by rw [hfoot O _ _ hcO (by decide) (by decide)]; exact hcO⟩, ?_⟩, ?_⟩
  · intro i l hl
    have ha := h.lv _ l (hcase i l hl)
    obtain ⟨_, cr, hcr⟩ := ha.row_tag
    exact ha.of (hfoot _ _ _ ha.blk (by decide) (by decide)) (hfoot _ _ _ hcr (by decide) (by decide))
  · intro i j a b hij ha hb
    refine h.inj _ _ a b ?_ (hcase i a ha) (hcase j b hb)
    by_cases c1 : i < r
    · by_cases c2 : j < r
      · rw [if_pos c1, if_pos c2]; exact hij
      · rw [if_pos c1, if_neg c2]; omega
    · by_cases c2 : j < r
      · rw [if_neg c1, if_pos c2]; omega
      · rw [if_neg c1, if_neg c2]; omega
  · intro i l hl; exact h.ge _ l (hcase i l hl)
  · intro i l hl; exact h.away _ l (hcase i l hl)
  · refine Kept.of_only hon (fun k hk => ?_)
    rcases hk with rfl | hk
    · exact ⟨h.geS, tag_ne h.top hcO (by decide), fun cs hc => tag_ne h.top hc (by decide) rfl⟩
    · obtain ⟨g1, c2, hc2⟩ := ownsRow_tag h.row hk
      exact ⟨g1, tag_ne hc2 hcO (by decide), fun cs hc => tag_ne hc2 hc (by decide) rfl⟩

/-- copy into a row of the call's own, as one step of a region that draws: what turns is that row alone. -/
theorem step_copy_own {P : Program} {ops : Array Oper} {o : Oper} {a : Act} {w : World} {K : Act → World → Prop} {Q : Exit → Act → World → Prop} {E : Prop} (hgd : o.guard = none) (d s : Operand) (dT sT : TypeId)
    (ho : o.op = .call { callee := .builtin .copy, args := #[d, s], argTypes := #[dT, sT] }) (elem : TypeId) (hu : P.underlying dT = some (.slice elem)) (hsz : (P.info? elem).map (·.size) = some 1)
    (dp sp : Option Addr) (dLen dCap sLen sCap : Nat) (hd : a.eval d = .slice dp dLen dCap) (hs : a.eval s = .slice sp sLen sCap)
    (g off : Nat) (cur : List Value) (t : TypeId) (hg : w.heap[g]? = some (.cells cur.toArray t (0, 0))) (cs : List Value) (hn : cs.length = Nat.min sLen dLen)
    (hpos : 0 < cs.length → dp = some ⟨g, off, none⟩ ∧ ∃ ad, sp = some ad ∧ ∀ j v, cs[j]? = some v → w.cell? (ad.add j) = some v)
    (hfit : off + cs.length ≤ cur.length) (h1 : ∀ v ∈ cs, v.oneCell' = true)
    (h : ∀ w', RowKit.Hid (w'.heap[g]? = some (.cells (splice cur off cs).toArray t (0, 0))) → w.grownBy w' (some g) → K (a.put o.dst (goInt cs.length)) w') :
    if Region.wanted o (yielded ops a.tmps) = true then Oper.wp P o a w K Q else E := by
  have hw : Region.wanted o (yielded ops a.tmps) = true := by simp [Region.wanted, hgd]
  rw [if_pos hw]
  by_cases h0 : cs.length = 0
  · obtain rfl : cs = [] := List.eq_nil_of_length_eq_zero h0
    have hrun := run_copy_none (P := P) w dT sT o.type elem dp sp dLen dCap sLen sCap hu hsz (by simpa using hn.symm)
    unfold Oper.wp
    simp [execOp, ho, resolve, invoke, builtin, hd, hs, hrun, Result.andThen]
    exact h w (show _ = _ by simpa [splice] using hg) ⟨rfl, rfl, rfl, Nat.le_refl _, fun _ _ _ => rfl⟩
  · obtain ⟨rfl, ad, rfl, hsrc⟩ := hpos (by omega)
    have hrun := run_copy_row (P := P) w dT sT o.type elem g off dLen dCap ad sLen sCap cur.toArray t cs hu hsz hg hn hsrc (by simpa using hfit) h1
    unfold Oper.wp
    simp [execOp, ho, resolve, invoke, builtin, hd, hs, hrun, Result.andThen]
    exact h _ (show _ = _ by simpa [splice] using setRow_heap w g _ _ t _ hg) ⟨rfl, rfl, rfl, by simp, fun k _ hk => setRow_other w g k _ (fun e => hk (by simp [e]))⟩
end Go.Proofs.Ybulkdoqg
