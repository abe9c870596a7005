import Derived.Test.YbulkdoqgBook
namespace Go.Proofs.Ybulkdoqg
open Go.RowKit

theorem wrs_irrefl (side a : Int) : wrs side a a = false := by unfold wrs; split <;> simp
theorem wrs_trans {side a b c : Int} (h1 : wrs side a b = true) (h2 : wrs side b c = true) : wrs side a c = true := by
  unfold wrs at *; split at h1 <;> simp_all <;> omega
theorem wrs_total {side a b : Int} (h : wrs side a b = false) (hne : a ≠ b) : wrs side b a = true := by
  unfold wrs at *; split at h <;> simp_all <;> omega
theorem wrs_ne {side a b : Int} (h : wrs side a b = true) : a ≠ b := by
  intro e; subst e; rw [wrs_irrefl] at h; cases h
theorem wrs_asymm {side a b : Int} (h : wrs side a b = true) : wrs side b a = false := by
  cases h' : wrs side b a with
  | false => rfl
  | true => have := wrs_trans h h'; rw [wrs_irrefl] at this; cases this

/-- the orders of price p among the first k that are there -/
def rem (P : Nat → Int) (D : Nat → Bool) (k : Nat) (p : Int) : List Nat := (List.range k).filter (fun m => D m && P m == p)

theorem rem_succ (P : Nat → Int) (D : Nat → Bool) (k : Nat) (p : Int) : rem P D (k + 1) p = rem P D k p ++ if D k && P k == p then [k] else [] := by
  unfold rem
  rw [List.range_succ, List.filter_append]
  congr 1
  simp [List.filter_cons]

theorem mem_rem {P : Nat → Int} {D : Nat → Bool} {k : Nat} {p : Int} {m : Nat} : m ∈ rem P D k p ↔ m < k ∧ D m = true ∧ P m = p := by
  simp [rem]

structure LvGood (side : Int) (P : Nat → Int) (Ob : Nat → Nat) (D : Nat → Bool) (k : Nat) (lvs : List Lv) : Prop where
  sorted : ∀ (i j : Nat) (a b : Lv), i < j → lvs[i]? = some a → lvs[j]? = some b → wrs side a.price b.price = true
  ords : ∀ (i : Nat) (l : Lv), lvs[i]? = some l → l.ords = (rem P D k l.price).map Ob ∧ rem P D k l.price ≠ []
  cover : ∀ m, m < k → D m = true → ∃ (i : Nat) (l : Lv), lvs[i]? = some l ∧ l.price = P m

theorem LvGood.nil (side : Int) (P : Nat → Int) (Ob : Nat → Nat) (D : Nat → Bool) : LvGood side P Ob D 0 [] :=
  ⟨fun i j a b _ h => by simp at h, fun i l h => by simp at h, fun m h => absurd h (by omega)⟩

theorem LvGood.mono {side : Int} {P : Nat → Int} {Ob : Nat → Nat} {D : Nat → Bool} {k : Nat} {lvs : List Lv} (h : LvGood side P Ob D k lvs) (p : Int) :
    ∀ i j, i ≤ j → j < lvs.length → wrs side (Lp lvs i) p = false → wrs side (Lp lvs j) p = false := by
  intro i j hij hj h1
  rcases Nat.lt_or_ge i j with hlt | hge
  · have ei := List.getElem?_eq_getElem (show i < lvs.length by omega)
    have ej := List.getElem?_eq_getElem hj
    have hs := h.sorted i j _ _ hlt ei ej
    have e1 : Lp lvs i = (lvs[i]'(by omega)).price := by simp [Lp, ei]
    have e2 : Lp lvs j = (lvs[j]).price := by simp [Lp, ej]
    rw [e1] at h1
    rw [e2]
    cases h2 : wrs side (lvs[j]).price p with
    | false => rfl
    | true => have := wrs_trans hs h2; rw [this] at h1; cases h1
  · have : i = j := by omega
    subst this; exact h1

/-- distinct levels have distinct prices -/
theorem LvGood.price_inj {side : Int} {P : Nat → Int} {Ob : Nat → Nat} {D : Nat → Bool} {k : Nat} {lvs : List Lv} (h : LvGood side P Ob D k lvs) {i j : Nat} {a b : Lv} (ha : lvs[i]? = some a) (hb : lvs[j]? = some b) (hij : i ≠ j) : a.price ≠ b.price := by
  rcases Nat.lt_or_ge i j with hlt | hge
  · exact wrs_ne (h.sorted i j a b hlt ha hb)
  · exact (wrs_ne (h.sorted j i b a (by omega) hb ha)).symm

theorem Lp_some {lvs : List Lv} {i : Nat} {l : Lv} (h : lvs[i]? = some l) : Lp lvs i = l.price := by simp [Lp, h]

theorem LvGood.pushed {side : Int} {P : Nat → Int} {Ob : Nat → Nat} {k : Nat} {lvs : List Lv} (h : LvGood side P Ob (fun _ => true) k lvs) {r : Nat} {l l' : Lv} (hl : lvs[r]? = some l) (hp : l.price = P k) (hp' : l'.price = l.price) (ho' : l'.ords = l.ords ++ [Ob k]) :
    LvGood side P Ob (fun _ => true) (k + 1) (lvs.set r l') := by
  have hrn : r < lvs.length := (List.getElem?_eq_some_iff.1 hl).1
  have hcase : ∀ (i : Nat) (a : Lv), (lvs.set r l')[i]? = some a → (i = r ∧ a = l') ∨ (i ≠ r ∧ lvs[i]? = some a) := fun i a ha => by
    rw [List.getElem?_set] at ha
    by_cases e : r = i
    · rw [if_pos e, if_pos hrn] at ha; cases ha; exact .inl ⟨e.symm, rfl⟩
    · rw [if_neg e] at ha; exact .inr ⟨fun h => e h.symm, ha⟩
  refine ⟨?_, ?_, ?_⟩
  · intro i j a b hij ha hb
    rcases hcase i a ha with ⟨e1, rfl⟩ | ⟨e1, ha'⟩
    · rcases hcase j b hb with ⟨e2, rfl⟩ | ⟨e2, hb'⟩
      · omega
      · rw [hp']; exact h.sorted r j l b (by omega) hl hb'
    · rcases hcase j b hb with ⟨e2, rfl⟩ | ⟨e2, hb'⟩
      · rw [hp']; exact h.sorted i r a l (by omega) ha' hl
      · exact h.sorted i j a b hij ha' hb'
  · intro i a ha
    rcases hcase i a ha with ⟨e1, rfl⟩ | ⟨e1, ha⟩
    · rw [rem_succ, ho', (h.ords r l hl).1, hp', hp]
      simp
    · have hne : P k ≠ a.price := by rw [← hp]; exact h.price_inj hl ha (by omega)
      rw [rem_succ]
      simp only [Bool.true_and, beq_iff_eq, hne, if_false, List.append_nil]
      exact h.ords i a ha
  · intro m hm _
    by_cases e : m = k
    · subst e
      exact ⟨r, l', by rw [List.getElem?_set, if_pos rfl, if_pos hrn], by rw [hp', hp]⟩
    · obtain ⟨i, a, ha, hpa⟩ := h.cover m (by omega) rfl
      by_cases e2 : r = i
      · subst e2
        rw [hl] at ha; cases ha
        exact ⟨r, l', by rw [List.getElem?_set, if_pos rfl, if_pos hrn], by rw [hp', hpa]⟩
      · exact ⟨i, a, by rw [List.getElem?_set, if_neg e2]; exact ha, hpa⟩

theorem LvGood.inserted {side : Int} {P : Nat → Int} {Ob : Nat → Nat} {k : Nat} {lvs : List Lv} (h : LvGood side P Ob (fun _ => true) k lvs) {r : Nat} {x : Lv} (hF : First side (P k) lvs.length (Lp lvs) r)
    (hno : ∀ l, lvs[r]? = some l → l.price ≠ P k) (hp : x.price = P k) (ho : x.ords = [Ob k]) : LvGood side P Ob (fun _ => true) (k + 1) (lvs.take r ++ x :: lvs.drop r) := by
  have hbef : ∀ (i : Nat) (a : Lv), lvs[i]? = some a → i < r → wrs side a.price (P k) = true := fun i a ha hi => by
    have := hF.before i hi; rwa [Lp_some ha] at this
  have hbeh : ∀ (i : Nat) (a : Lv), lvs[i]? = some a → r ≤ i → wrs side a.price (P k) = false := fun i a ha hi => by
    have := hF.behind i hi (List.getElem?_eq_some_iff.1 ha).1; rwa [Lp_some ha] at this
  have hne : ∀ (i : Nat) (a : Lv), lvs[i]? = some a → a.price ≠ P k := fun i a ha => by
    rcases Nat.lt_trichotomy i r with hlt | e | hgt
    · exact wrs_ne (hbef i a ha hlt)
    · subst e; exact hno a ha
    · have hrl : r < lvs.length := by have := (List.getElem?_eq_some_iff.1 ha).1; omega
      have er := List.getElem?_eq_getElem hrl
      have h1 := h.sorted r i _ a hgt er ha
      have h2 := hbeh r _ er (Nat.le_refl _)
      intro e
      rw [← e, h1] at h2; cases h2
  have hcase : ∀ (i : Nat) (l : Lv), (lvs.take r ++ x :: lvs.drop r)[i]? = some l → (i = r ∧ l = x) ∨ (i < r ∧ lvs[i]? = some l) ∨ (r < i ∧ lvs[i - 1]? = some l) := fun i l hl => by
    rw [ins_get _ _ _ _ hF.le] at hl
    by_cases h1 : i < r
    · rw [if_pos h1] at hl; exact .inr (.inl ⟨h1, hl⟩)
    · rw [if_neg h1] at hl
      by_cases h2 : i = r
      · rw [if_pos h2] at hl; cases hl; exact .inl ⟨h2, rfl⟩
      · rw [if_neg h2] at hl; exact .inr (.inr ⟨by omega, hl⟩)
  refine ⟨?_, ?_, ?_⟩
  · intro i j a b hij ha hb
    rcases hcase i a ha with ⟨e1, rfl⟩ | ⟨e1, ha'⟩ | ⟨e1, ha'⟩
    · rcases hcase j b hb with ⟨e2, rfl⟩ | ⟨e2, hb'⟩ | ⟨e2, hb'⟩
      · omega
      · omega
      · rw [hp]; exact wrs_total (hbeh _ b hb' (by omega)) (hne _ b hb')
    · rcases hcase j b hb with ⟨e2, rfl⟩ | ⟨e2, hb'⟩ | ⟨e2, hb'⟩
      · rw [hp]; exact hbef i a ha' e1
      · exact h.sorted i j a b hij ha' hb'
      · exact h.sorted i (j - 1) a b (by omega) ha' hb'
    · rcases hcase j b hb with ⟨e2, rfl⟩ | ⟨e2, hb'⟩ | ⟨e2, hb'⟩
      · omega
      · omega
      · exact h.sorted (i - 1) (j - 1) a b (by omega) ha' hb'
  · have hold : ∀ (i : Nat) (a : Lv), lvs[i]? = some a → a.ords = (rem P (fun _ => true) (k + 1) a.price).map Ob ∧ rem P (fun _ => true) (k + 1) a.price ≠ [] := fun i a ha => by
      have hn : P k ≠ a.price := fun e => hne i a ha e.symm
      rw [rem_succ]
      simp only [Bool.true_and, beq_iff_eq, hn, if_false, List.append_nil]
      exact h.ords i a ha
    intro i a ha
    rcases hcase i a ha with ⟨e1, rfl⟩ | ⟨e1, ha⟩ | ⟨e1, ha⟩
    · have h0 : rem P (fun _ => true) k (P k) = [] := by
        apply List.eq_nil_iff_forall_not_mem.2
        intro m hm
        obtain ⟨h1, _, h2⟩ := mem_rem.1 hm
        obtain ⟨i', l, hl, hpl⟩ := h.cover m h1 rfl
        exact hne i' l hl (by rw [hpl, h2])
      rw [hp, rem_succ, h0, ho]
      simp
    · exact hold i a ha
    · exact hold _ a ha
  · intro m hm _
    by_cases e : m = k
    · subst e
      exact ⟨r, x, by rw [ins_get _ _ _ _ hF.le, if_neg (by omega), if_pos rfl], hp⟩
    · obtain ⟨i, a, ha, hpa⟩ := h.cover m (by omega) rfl
      by_cases e2 : i < r
      · exact ⟨i, a, by rw [ins_get _ _ _ _ hF.le, if_pos e2]; exact ha, hpa⟩
      · exact ⟨i + 1, a, by rw [ins_get _ _ _ _ hF.le, if_neg (by omega), if_neg (by omega)]; exact ha, hpa⟩

/-- the order numbered t removed from its level -/
def but (t : Nat) (m : Nat) : Bool := !(m == t)

theorem rem_but (P : Nat → Int) (t k : Nat) (p : Int) : rem P (but t) k p = (rem P (fun _ => true) k p).filter (but t) := by
  unfold rem
  rw [List.filter_filter]
  congr 1

theorem rem_nodup (P : Nat → Int) (D : Nat → Bool) (k : Nat) (p : Int) : (rem P D k p).Nodup := List.Pairwise.filter _ List.nodup_range

/-- striking t out of a list without doubles is erasing its place -/
theorem filter_but_erase {t : Nat} : ∀ {xs : List Nat} {j : Nat}, xs.Nodup → xs[j]? = some t → xs.filter (but t) = xs.eraseIdx j
  | [], j, _, h => by simp at h
  | x :: xs, 0, hn, h => by
    simp at h; subst h
    have hx : x ∉ xs := (List.nodup_cons.1 hn).1
    rw [List.filter_cons]
    simp only [but, beq_self_eq_true, Bool.not_true, Bool.false_eq_true, if_false, List.eraseIdx_cons_zero]
    exact List.filter_eq_self.2 (fun a ha => by unfold but; rw [Bool.not_eq_true', beq_eq_false_iff_ne]; intro e; subst e; exact hx ha)
  | x :: xs, j + 1, hn, h => by
    simp at h
    have hx : x ∉ xs := (List.nodup_cons.1 hn).1
    have ht : t ∈ xs := List.mem_of_getElem? h
    have hxt : x ≠ t := fun e => hx (e ▸ ht)
    rw [List.filter_cons]
    simp only [but, beq_eq_false_iff_ne.2 hxt, Bool.not_false, if_true, List.eraseIdx_cons_succ]
    congr 1
    exact filter_but_erase (List.nodup_cons.1 hn).2 h

theorem eraseIdx_map {α β : Type} (f : α → β) (xs : List α) (j : Nat) : (xs.map f).eraseIdx j = (xs.eraseIdx j).map f := by
  apply List.ext_getElem?
  intro i
  rw [List.getElem?_map, List.getElem?_eraseIdx, List.getElem?_eraseIdx, List.getElem?_map, List.getElem?_map]
  split <;> rfl

theorem LvGood.struck {side : Int} {P : Nat → Int} {Ob : Nat → Nat} {n t j r : Nat} {lvs : List Lv} {l l' : Lv} (h : LvGood side P Ob (fun _ => true) n lvs) (hl : lvs[r]? = some l) (hpt : l.price = P t)
    (hj : (rem P (fun _ => true) n l.price)[j]? = some t) (hlen : l.ords.length ≠ 1) (hp' : l'.price = l.price) (ho' : l'.ords = l.ords.eraseIdx j) : LvGood side P Ob (but t) n (lvs.set r l') := by
  have hrn : r < lvs.length := (List.getElem?_eq_some_iff.1 hl).1
  have he : rem P (but t) n l.price = (rem P (fun _ => true) n l.price).eraseIdx j := by rw [rem_but]; exact filter_but_erase (rem_nodup _ _ _ _) hj
  have hcase : ∀ (i : Nat) (a : Lv), (lvs.set r l')[i]? = some a → (i = r ∧ a = l') ∨ (i ≠ r ∧ lvs[i]? = some a) := fun i a ha => by
    rw [List.getElem?_set] at ha
    by_cases e : r = i
    · rw [if_pos e, if_pos hrn] at ha; cases ha; exact .inl ⟨e.symm, rfl⟩
    · rw [if_neg e] at ha; exact .inr ⟨fun h => e h.symm, ha⟩
  refine ⟨?_, ?_, ?_⟩
  · intro i j a b hij ha hb
    rcases hcase i a ha with ⟨e1, rfl⟩ | ⟨e1, ha'⟩
    · rcases hcase j b hb with ⟨e2, rfl⟩ | ⟨e2, hb'⟩
      · omega
      · rw [hp']; exact h.sorted r j l b (by omega) hl hb'
    · rcases hcase j b hb with ⟨e2, rfl⟩ | ⟨e2, hb'⟩
      · rw [hp']; exact h.sorted i r a l (by omega) ha' hl
      · exact h.sorted i j a b hij ha' hb'
  · intro i a ha
    rcases hcase i a ha with ⟨e1, rfl⟩ | ⟨e1, ha'⟩
    · rw [hp', he, ho', (h.ords r l hl).1, eraseIdx_map]
      refine ⟨rfl, fun e => ?_⟩
      have h1 : (rem P (fun _ => true) n l.price).length ≠ 1 := by
        have := (h.ords r l hl).1; rw [this] at hlen; simpa using hlen
      have h2 := (List.getElem?_eq_some_iff.1 hj).1
      have h3 := congrArg List.length e
      rw [List.length_eraseIdx, if_pos h2] at h3
      simp at h3; omega
    · have hne : a.price ≠ P t := by rw [← hpt]; exact h.price_inj ha' hl e1
      have : rem P (but t) n a.price = rem P (fun _ => true) n a.price := by
        rw [rem_but]
        refine List.filter_eq_self.2 (fun m hm => ?_)
        obtain ⟨_, _, h2⟩ := mem_rem.1 hm
        simp only [but, Bool.not_eq_true', beq_eq_false_iff_ne]
        intro e; subst e; exact hne h2.symm
      rw [this]; exact h.ords i a ha'
  · intro m hm _
    obtain ⟨i, a, ha, hpa⟩ := h.cover m hm rfl
    by_cases e2 : r = i
    · subst e2
      rw [hl] at ha; cases ha
      exact ⟨r, l', by rw [List.getElem?_set, if_pos rfl, if_pos hrn], by rw [hp', hpa]⟩
    · exact ⟨i, a, by rw [List.getElem?_set, if_neg e2]; exact ha, hpa⟩

theorem LvGood.dropped {side : Int} {P : Nat → Int} {Ob : Nat → Nat} {n t j r : Nat} {lvs : List Lv} {l : Lv} (h : LvGood side P Ob (fun _ => true) n lvs) (hl : lvs[r]? = some l) (hpt : l.price = P t)
    (hj : (rem P (fun _ => true) n l.price)[j]? = some t) (hlen : l.ords.length = 1) : LvGood side P Ob (but t) n (lvs.eraseIdx r) := by
  have hrn : r < lvs.length := (List.getElem?_eq_some_iff.1 hl).1
  have h1 : (rem P (fun _ => true) n l.price).length = 1 := by
    have := (h.ords r l hl).1; rw [this] at hlen; simpa using hlen
  have hj0 : j = 0 := by have := (List.getElem?_eq_some_iff.1 hj).1; omega
  have honly : ∀ m, m < n → P m = P t → m = t := fun m hm hP => by
    have hmm : m ∈ rem P (fun _ => true) n l.price := mem_rem.2 ⟨hm, rfl, by rw [hpt]; exact hP⟩
    obtain ⟨i, hi, e⟩ := List.getElem_of_mem hmm
    have : i = 0 := by omega
    subst this; subst hj0
    rw [List.getElem?_eq_getElem hi] at hj
    rw [← e]; exact Option.some.inj hj
  have hcase : ∀ (i : Nat) (a : Lv), (lvs.eraseIdx r)[i]? = some a → lvs[if i < r then i else i + 1]? = some a := fun i a ha => by
    rw [List.getElem?_eraseIdx] at ha
    by_cases c : i < r
    · rw [if_pos c] at ha ⊢; exact ha
    · rw [if_neg c] at ha ⊢; exact ha
  have hidx : ∀ i : Nat, (if i < r then i else i + 1) ≠ r := fun i => by split <;> omega
  refine ⟨?_, ?_, ?_⟩
  · intro i j a b hij ha hb
    refine h.sorted _ _ a b ?_ (hcase i a ha) (hcase j b hb)
    by_cases c1 : i < r
    · by_cases c2 : j < r
      · rw [if_pos c1, if_pos c2]; exact hij
      · rw [if_pos c1, if_neg c2]; omega
    · rw [if_neg c1, if_neg (by omega)]; omega
  · intro i a ha
    have ha' := hcase i a ha
    have hne : a.price ≠ P t := by rw [← hpt]; exact h.price_inj ha' hl (hidx i)
    have : rem P (but t) n a.price = rem P (fun _ => true) n a.price := by
      rw [rem_but]
      refine List.filter_eq_self.2 (fun m hm => ?_)
      obtain ⟨_, _, h2⟩ := mem_rem.1 hm
      simp only [but, Bool.not_eq_true', beq_eq_false_iff_ne]
      intro e; subst e; exact hne h2.symm
    rw [this]; exact h.ords _ a ha'
  · intro m hm hD
    obtain ⟨i, a, ha, hpa⟩ := h.cover m hm rfl
    have hir : i ≠ r := fun e => by
      subst e
      rw [hl] at ha; cases ha
      have := honly m hm (by rw [← hpa, hpt])
      subst this; simp [but] at hD
    by_cases c : i < r
    · exact ⟨i, a, by rw [List.getElem?_eraseIdx, if_pos c]; exact ha, hpa⟩
    · exact ⟨i - 1, a, by rw [List.getElem?_eraseIdx, if_neg (by omega), show i - 1 + 1 = i by omega]; exact ha, hpa⟩

/-- Two strictly sorted lists of the same members are one. -/
theorem sorted_ext {side : Int} : ∀ {xs ys : List Int}, xs.Pairwise (fun a b => wrs side a b = true) → ys.Pairwise (fun a b => wrs side a b = true) → (∀ a, a ∈ xs ↔ a ∈ ys) → xs = ys
  | [], [], _, _, _ => rfl
  | [], y :: ys, _, _, h => by have := (h y).2 (by simp); simp at this
  | x :: xs, [], _, _, h => by have := (h x).1 (by simp); simp at this
  | x :: xs, y :: ys, hx, hy, h => by
    obtain ⟨hx1, hx2⟩ := List.pairwise_cons.1 hx
    obtain ⟨hy1, hy2⟩ := List.pairwise_cons.1 hy
    have e : x = y := by
      rcases List.mem_cons.1 ((h x).1 (by simp)) with e | hm
      · exact e
      · rcases List.mem_cons.1 ((h y).2 (by simp)) with e | hm'
        · exact e.symm
        · have h1 := hy1 x hm
          have h2 := hx1 y hm'
          rw [wrs_asymm h1] at h2; cases h2
    subst e
    congr 1
    refine sorted_ext hx2 hy2 (fun a => ⟨fun ha => ?_, fun ha => ?_⟩)
    · rcases List.mem_cons.1 ((h a).1 (by simp [ha])) with e | hm
      · subst e; exact absurd (hx1 a ha) (by rw [wrs_irrefl]; simp)
      · exact hm
    · rcases List.mem_cons.1 ((h a).2 (by simp [ha])) with e | hm
      · subst e; exact absurd (hy1 a ha) (by rw [wrs_irrefl]; simp)
      · exact hm

/-- THE PLAIN LAW: the levels' prices are the distinct prices, worst first, at which an order is left. -/
theorem LvGood.prices {side : Int} {P : Nat → Int} {Ob : Nat → Nat} {D : Nat → Bool} {n : Nat} {lvs : List Lv} (h : LvGood side P Ob D n lvs) {ps : List Int} (hs : ps.Pairwise (fun a b => wrs side a b = true)) (hm : ∀ m, m < n → P m ∈ ps) :
    lvs.map (·.price) = ps.filter (fun p => !(rem P D n p).isEmpty) := by
  refine sorted_ext (side := side) ?_ (hs.filter _) (fun a => ⟨fun ha => ?_, fun ha => ?_⟩)
  · rw [List.pairwise_iff_getElem]
    intro i j hi hj hij
    simp only [List.getElem_map]
    simp only [List.length_map] at hi hj
    exact h.sorted i j _ _ hij (List.getElem?_eq_getElem hi) (List.getElem?_eq_getElem hj)
  · obtain ⟨l, hl, rfl⟩ := List.mem_map.1 ha
    obtain ⟨i, hi, e⟩ := List.getElem_of_mem hl
    have ho := (h.ords i l (by rw [List.getElem?_eq_getElem hi, e])).2
    obtain ⟨m, hmm⟩ := List.exists_mem_of_ne_nil _ ho
    obtain ⟨h1, _, h2⟩ := mem_rem.1 hmm
    exact List.mem_filter.2 ⟨by rw [← h2]; exact hm m h1, by simpa using ho⟩
  · obtain ⟨_, h2⟩ := List.mem_filter.1 ha
    have h3 : rem P D n a ≠ [] := by simpa using h2
    obtain ⟨m, hmm⟩ := List.exists_mem_of_ne_nil _ h3
    obtain ⟨g1, g2, g3⟩ := mem_rem.1 hmm
    obtain ⟨i, l, hl, hp⟩ := h.cover m g1 g2
    exact List.mem_map.2 ⟨l, List.mem_of_getElem? hl, by rw [hp, g3]⟩
end Go.Proofs.Ybulkdoqg
