import Derived.Test.YbulkdoquKeys
namespace Go.Proofs.Ybulkdoqu

/-- the slot at a point of the line, and how far its resident lies from home -/
def rg (N : Nat) (sl : Nat → Nat) (x : Int) : Nat := sl ((x % ((2 * N : Nat) : Int)).toNat)
def dl (N : Nat) (sl κ H : Nat → Nat) (x : Int) : Int := (x - H (κ (rg N sl x - 1))) % ((2 * N : Nat) : Int)

theorem rg_nat (N : Nat) (sl : Nat → Nat) (y : Nat) : rg N sl (y : Int) = sl (y % (2 * N)) := by
  unfold rg
  rw [← Int.natCast_emod]
  simp only [Int.toNat_natCast]
theorem rg_lt (N : Nat) (sl : Nat → Nat) (y : Nat) (h : y < 2 * N) : rg N sl (y : Int) = sl y := by rw [rg_nat, Nat.mod_eq_of_lt h]
theorem dl_nat (N : Nat) (sl κ H : Nat → Nat) (hN : 0 < N) (y : Nat) : dl N sl κ H (y : Int) = ((dst N (y % (2 * N)) (H (κ (sl (y % (2 * N)) - 1))) : Nat) : Int) := by
  unfold dl
  rw [rg_nat, dst_int _ _ _ hN]
  generalize H (κ (sl (y % (2 * N)) - 1)) = h
  have e : ((y % (2 * N) : Nat) : Int) - (h : Int) = ((y : Int) - h) + ((2 * N : Nat) : Int) * (-((y : Int) / ((2 * N : Nat) : Int))) := by
    have := Int.emod_add_mul_ediv (y : Int) ((2 * N : Nat) : Int)
    rw [Int.natCast_emod, Int.mul_neg]
    omega
  rw [e, Int.add_mul_emod_self_left]
theorem rg_per (N : Nat) (sl : Nat → Nat) (x : Int) : rg N sl (x + ((2 * N : Nat) : Int)) = rg N sl x := by unfold rg; rw [Int.add_emod_right]
theorem dl_per (N : Nat) (sl κ H : Nat → Nat) (x : Int) : dl N sl κ H (x + ((2 * N : Nat) : Int)) = dl N sl κ H x := by
  unfold dl
  rw [rg_per, show x + ((2 * N : Nat) : Int) - (H (κ (rg N sl x - 1)) : Int) = x - H (κ (rg N sl x - 1)) + ((2 * N : Nat) : Int) by omega, Int.add_emod_right]
theorem dl_bound (N : Nat) (sl κ H : Nat → Nat) (hN : 0 < N) (x : Int) : 0 ≤ dl N sl κ H x ∧ dl N sl κ H x < ((2 * N : Nat) : Int) :=
  ⟨Int.emod_nonneg _ (by omega), Int.emod_lt_of_pos _ (by omega)⟩
/-- a point of the line is a slot's number and whole rounds -/
theorem rg_slot (N : Nat) (hN : 0 < N) (x : Int) : ∃ (j : Nat) (k : Int), j < 2 * N ∧ x = (j : Int) + ((2 * N : Nat) : Int) * k := by
  obtain ⟨t, k, h0, h1, e⟩ := window (M := ((2 * N : Nat) : Int)) (by omega) 0 x
  exact ⟨t.toNat, k, by omega, by omega⟩

/-- the index after n places: κ tells a place's key, H a key's home -/
structure Tab (N n : Nat) (κ H sl : Nat → Nat) (rch : Nat) : Prop where
  circ : Circ ((2 * N : Nat) : Int) (rg N sl) (dl N sl κ H)
  ord : ∀ x, rg N sl x ≠ 0 → rg N sl (x + 1) ≠ 0 → dl N sl κ H (x + 1) = dl N sl κ H x + 1 → fstOf κ (κ (rg N sl x - 1)) n ≤ fstOf κ (κ (rg N sl (x + 1) - 1)) n
  newest : ∀ j, j < 2 * N → sl j ≠ 0 → sl j ≤ n ∧ sl j = lastOf κ (κ (sl j - 1)) n
  has : ∀ a, lastOf κ a n ≠ 0 → ∃ j, j < 2 * N ∧ sl j = lastOf κ a n
  inj : ∀ j j', j < 2 * N → j' < 2 * N → sl j = sl j' → sl j ≠ 0 → j = j'
  top : ∀ j, j < 2 * N → sl j ≠ 0 → dst N j (H (κ (sl j - 1))) + 1 ≤ rch
  hit : rch = 0 ∨ ∃ j, j < 2 * N ∧ sl j ≠ 0 ∧ dst N j (H (κ (sl j - 1))) + 1 = rch
  cnt : fullN sl (2 * N) = dc κ n

theorem Tab.start (N : Nat) (κ H : Nat → Nat) : Tab N 0 κ H (fun _ => 0) 0 := by
  have hz : ∀ m, fullN (fun _ => 0) m = 0 := fun m => by
    induction m with
    | zero => rfl
    | succ m ih => unfold fullN; rw [ih]; rfl
  exact ⟨⟨rg_per _ _, dl_per _ _ _ _, fun x hx => absurd rfl hx, fun x hx => absurd rfl hx, fun x hx => absurd rfl hx⟩, fun x hx => absurd rfl hx, fun j _ hj => absurd rfl hj, fun a ha => absurd rfl ha, fun j j' _ _ _ hj => absurd rfl hj, fun j _ hj => absurd rfl hj, .inl rfl, hz _⟩

/-- there is an empty slot; the first one from i on lies less than a round less one off -/
theorem Tab.empty {N n : Nat} {κ H sl : Nat → Nat} {rch : Nat} (h : Tab N n κ H sl rch) (hn : n < N) (i : Nat) (hi : i < 2 * N) :
    ∃ e, e + 1 < 2 * N ∧ (∀ t, t < e → sl ((i + t) % (2 * N)) ≠ 0) ∧ sl ((i + e) % (2 * N)) = 0 := by
  have hc : fullN sl (2 * N) ≤ n := by rw [h.cnt]; exact dc_le κ n
  -- the least offset
  have key : ∀ m, m ≤ 2 * N → (∀ t, t < m → sl ((i + t) % (2 * N)) ≠ 0) ∨ ∃ e, e < m ∧ (∀ t, t < e → sl ((i + t) % (2 * N)) ≠ 0) ∧ sl ((i + e) % (2 * N)) = 0 := by
    intro m
    induction m with
    | zero => exact fun _ => .inl (fun t ht => absurd ht (by omega))
    | succ m ih =>
      intro hm
      rcases ih (by omega) with h1 | ⟨e, he, h1, h2⟩
      · by_cases hz : sl ((i + m) % (2 * N)) = 0
        · exact .inr ⟨m, by omega, h1, hz⟩
        · refine .inl (fun t ht => ?_)
          by_cases e : t = m
          · subst e; exact hz
          · exact h1 t (by omega)
      · exact .inr ⟨e, by omega, h1, h2⟩
  rcases key (2 * N - 1) (by omega) with h1 | ⟨e, he, h1, h2⟩
  · exfalso
    have := fullN_but sl ((i + (2 * N - 1)) % (2 * N)) (2 * N) (fun j hj hne => by
      have hd := dst_lt N j i (by omega)
      have hp := pos_dst N i j hi hj
      have hne2 : dst N j i ≠ 2 * N - 1 := fun e => hne (by rw [← e]; exact hp.symm)
      rw [← hp]
      exact h1 _ (by omega))
    omega
  · exact ⟨e, by omega, h1, h2⟩

/-- a key that occurs has its slot d from its home: every slot from the home to it is full and no nearer its own home -/
theorem Tab.way {N n : Nat} {κ H sl : Nat → Nat} {rch : Nat} (h : Tab N n κ H sl rch) (hN : 0 < N) (a : Nat) (ha : lastOf κ a n ≠ 0) :
    ∃ D, D < 2 * N ∧ sl ((H a + D) % (2 * N)) = lastOf κ a n ∧ ∀ t, t ≤ D → sl ((H a + t) % (2 * N)) ≠ 0 ∧ t ≤ dst N ((H a + t) % (2 * N)) (H (κ (sl ((H a + t) % (2 * N)) - 1))) := by
  obtain ⟨j, hj, e⟩ := h.has a ha
  have hk : κ (sl j - 1) = a := by rw [e]; exact lastOf_key κ a n ha
  have hj0 : sl j ≠ 0 := by rw [e]; exact ha
  obtain ⟨D, hD⟩ : ∃ D, D = dst N j (H a) := ⟨_, rfl⟩
  have hDl : D < 2 * N := by rw [hD]; exact dst_lt _ _ _ hN
  -- j is H a + D and whole rounds
  obtain ⟨q, hq⟩ : ∃ q : Int, (j : Int) = ((H a + D : Nat) : Int) + ((2 * N : Nat) : Int) * q := by
    have := dst_int N j (H a) hN
    rw [← hD] at this
    have h2 := Int.emod_add_mul_ediv ((j : Int) - H a) ((2 * N : Nat) : Int)
    exact ⟨((j : Int) - H a) / ((2 * N : Nat) : Int), by rw [← this] at h2; omega⟩
  have hrj : ∀ t : Nat, t ≤ D → rg N sl ((j : Int) - ((D - t : Nat) : Int)) = sl ((H a + t) % (2 * N)) := fun t ht => by
    rw [hq, show ((H a + D : Nat) : Int) + ((2 * N : Nat) : Int) * q - ((D - t : Nat) : Int) = ((H a + t : Nat) : Int) + ((2 * N : Nat) : Int) * q by omega, per_int (rg_per N sl), rg_nat]
  have hdj : ∀ t : Nat, t ≤ D → dl N sl κ H ((j : Int) - ((D - t : Nat) : Int)) = ((dst N ((H a + t) % (2 * N)) (H (κ (sl ((H a + t) % (2 * N)) - 1))) : Nat) : Int) := fun t ht => by
    rw [hq, show ((H a + D : Nat) : Int) + ((2 * N : Nat) : Int) * q - ((D - t : Nat) : Int) = ((H a + t : Nat) : Int) + ((2 * N : Nat) : Int) * q by omega, per_int (dl_per N sl κ H), dl_nat _ _ _ _ hN]
  have hx : rg N sl (j : Int) ≠ 0 := by rw [rg_lt _ _ _ hj]; exact hj0
  have hdx : dl N sl κ H (j : Int) = (D : Int) := by
    rw [dl_nat _ _ _ _ hN, Nat.mod_eq_of_lt hj, hk, hD]
  refine ⟨D, hDl, ?_, fun t ht => ?_⟩
  · have := hrj D (Nat.le_refl _)
    rw [Nat.sub_self] at this
    rw [← this, ← e, ← rg_lt N sl j hj]
    simp
  · obtain ⟨h1, h2⟩ := h.circ.far hx (D - t) (by rw [hdx]; omega)
    rw [hrj t ht] at h1
    rw [hdj t ht, hdx] at h2
    exact ⟨h1, by omega⟩

theorem Tab.absent {N n : Nat} {κ H sl : Nat → Nat} {rch : Nat} (h : Tab N n κ H sl rch) (hN : 0 < N) (a d : Nat)
    (hpass : ∀ t, t < d → κ (sl ((H a + t) % (2 * N)) - 1) ≠ a) (hstop : sl ((H a + d) % (2 * N)) = 0 ∨ dst N ((H a + d) % (2 * N)) (H (κ (sl ((H a + d) % (2 * N)) - 1))) < d) : lastOf κ a n = 0 := by
  apply Classical.byContradiction
  intro hne
  obtain ⟨D, hD, e, hw⟩ := h.way hN a hne
  rcases Nat.lt_or_ge D d with hlt | hge
  · refine hpass D hlt ?_
    rw [e]; exact lastOf_key κ a n hne
  · obtain ⟨h1, h2⟩ := hw d hge
    rcases hstop with h3 | h3
    · exact h1 h3
    · omega

theorem Tab.fst {N n : Nat} {κ H sl : Nat → Nat} {rch : Nat} (h : Tab N n κ H sl rch) (j : Nat) (hj : j < 2 * N) (h0 : sl j ≠ 0) : fstOf κ (κ (sl j - 1)) n ≠ 0 := by
  intro e
  have := (h.newest j hj h0).2
  exact h0 (this.trans ((fstOf_zero _ _ _).1 e))

theorem Tab.fstx {N n : Nat} {κ H sl : Nat → Nat} {rch : Nat} (h : Tab N n κ H sl rch) (hN : 0 < N) (x : Int) (h0 : rg N sl x ≠ 0) : fstOf κ (κ (rg N sl x - 1)) n ≠ 0 := by
  obtain ⟨j, k, hj, rfl⟩ := rg_slot N hN x
  rw [per_int (rg_per N sl), rg_lt _ _ _ hj] at h0 ⊢
  exact h.fst j hj h0

/-- a key that is there is put again -/
theorem Tab.replace {N n : Nat} {κ H sl : Nat → Nat} {rch : Nat} (h : Tab N n κ H sl rch) (hN : 0 < N) (i : Nat) (hi : i < 2 * N) (h0 : sl i ≠ 0) (hk : κ (sl i - 1) = κ n) :
    Tab N (n + 1) κ H (fun x => if x = i then n + 1 else sl x) rch := by
  obtain ⟨hi1, hi2⟩ := h.newest i hi h0
  rw [hk] at hi2
  have hkey : ∀ j, κ ((if j = i then n + 1 else sl j) - 1) = κ (sl j - 1) := fun j => by
    by_cases e : j = i
    · subst e; rw [if_pos rfl, Nat.add_sub_cancel, hk]
    · rw [if_neg e]
  have hnz : ∀ j, (if j = i then n + 1 else sl j) = 0 ↔ sl j = 0 := fun j => by
    by_cases e : j = i
    · subst e; rw [if_pos rfl]; constructor
      · intro h2; omega
      · intro h2; exact absurd h2 h0
    · rw [if_neg e]
  have hrk : ∀ x, κ (rg N (fun x => if x = i then n + 1 else sl x) x - 1) = κ (rg N sl x - 1) := fun x => hkey _
  have hrz : ∀ x, rg N (fun x => if x = i then n + 1 else sl x) x ≠ 0 ↔ rg N sl x ≠ 0 := fun x => not_congr (hnz _)
  have hdl : dl N (fun x => if x = i then n + 1 else sl x) κ H = dl N sl κ H := by
    funext x
    unfold dl
    rw [hrk]
  have hother : ∀ j, j < 2 * N → j ≠ i → sl j ≠ 0 → κ n ≠ κ (sl j - 1) := fun j hj hne hj0 e => by
    have := (h.newest j hj hj0).2
    rw [← e, ← hi2] at this
    exact hne (h.inj j i hj hi this hj0)
  refine ⟨⟨rg_per _ _, dl_per _ _ _ _, fun x hx => ?_, fun x hx t t0 t1 => ?_, fun x hx hy => ?_⟩, fun x hx hy he => ?_, fun j hj hj0 => ?_, fun a ha => ?_, fun j j' hj hj' he hj0 => ?_, fun j hj hj0 => ?_, ?_, ?_⟩
  · rw [hdl]; exact h.circ.nn x ((hrz x).1 hx)
  · rw [hdl] at t1; exact (hrz _).2 (h.circ.path x ((hrz x).1 hx) t t0 t1)
  · rw [hdl]; exact h.circ.near x ((hrz x).1 hx) ((hrz _).1 hy)
  · rw [hdl] at he
    have hx' := (hrz x).1 hx
    have hy' := (hrz (x + 1)).1 hy
    rw [hrk, hrk, fstOf_succ_old _ _ _ (h.fstx hN x hx'), fstOf_succ_old _ _ _ (h.fstx hN (x + 1) hy')]
    exact h.ord x hx' hy' he
  · show (if j = i then n + 1 else sl j) ≤ n + 1 ∧ (if j = i then n + 1 else sl j) = lastOf κ (κ ((if j = i then n + 1 else sl j) - 1)) (n + 1)
    rw [hkey j]
    by_cases e : j = i
    · subst e
      rw [if_pos rfl, hk, lastOf_succ_same]
      exact ⟨Nat.le_refl _, rfl⟩
    · have hj0' : sl j ≠ 0 := fun e2 => hj0 (by show (if j = i then n + 1 else sl j) = 0; rw [if_neg e]; exact e2)
      rw [if_neg e, lastOf_succ_other _ _ _ (hother j hj e hj0')]
      have := h.newest j hj hj0'
      exact ⟨by omega, this.2⟩
  · by_cases e : κ n = a
    · subst e
      exact ⟨i, hi, by simp [lastOf_succ_same]⟩
    · rw [lastOf_succ_other _ _ _ e] at ha ⊢
      obtain ⟨j, hj, hje⟩ := h.has a ha
      have hji : j ≠ i := fun e2 => by
        subst e2
        have := lastOf_key κ a n ha
        rw [← hje, hk] at this
        exact e this
      exact ⟨j, hj, by rw [if_neg hji, hje]⟩
  · have hle : ∀ j, j < 2 * N → sl j ≤ n := fun j hj => by
      by_cases e : sl j = 0
      · omega
      · exact (h.newest j hj e).1
    have he : (if j = i then n + 1 else sl j) = (if j' = i then n + 1 else sl j') := he
    have hj0 : (if j = i then n + 1 else sl j) ≠ 0 := hj0
    by_cases e : j = i
    · by_cases e' : j' = i
      · rw [e, e']
      · rw [if_pos e, if_neg e'] at he
        have := hle j' hj'
        omega
    · by_cases e' : j' = i
      · rw [if_neg e, if_pos e'] at he
        have := hle j hj
        omega
      · rw [if_neg e, if_neg e'] at he
        rw [if_neg e] at hj0
        exact h.inj j j' hj hj' he hj0
  · have := h.top j hj (fun e => hj0 ((hnz j).2 e))
    show dst N j (H (κ ((if j = i then n + 1 else sl j) - 1))) + 1 ≤ rch
    rw [hkey j]; exact this
  · rcases h.hit with h1 | ⟨j, hj, hj0, he⟩
    · exact .inl h1
    · refine .inr ⟨j, hj, fun e => hj0 ((hnz j).1 e), ?_⟩
      show dst N j (H (κ ((if j = i then n + 1 else sl j) - 1))) + 1 = rch
      rw [hkey j]; exact he
  · rw [fullN_same sl _ _ (fun j _ => hnz j), h.cnt]
    show dc κ n = dc κ n + _
    rw [if_neg (by rw [← hi2]; exact h0)]
    rfl

theorem rOf_ge0 (N : Nat) (sl hm : Nat → Nat) (i d : Nat) : ∀ t, d + 1 ≤ rOf N sl hm i d t
  | 0 => Nat.le_refl _
  | t + 1 => by have := rOf_ge0 N sl hm i d t; simp only [rOf]; omega
theorem rOf_ge (N : Nat) (sl hm : Nat → Nat) (i d : Nat) : ∀ t u, u < t → dst N ((i + u) % (2 * N)) (hm (sl ((i + u) % (2 * N)) - 1)) + 2 ≤ rOf N sl hm i d t
  | 0, u, h => absurd h (by omega)
  | t + 1, u, h => by
    simp only [rOf]
    by_cases e : u = t
    · subst e; omega
    · have := rOf_ge N sl hm i d t u (by omega); omega
theorem rOf_hit (N : Nat) (sl hm : Nat → Nat) (i d : Nat) : ∀ t, rOf N sl hm i d t = d + 1 ∨ ∃ u, u < t ∧ rOf N sl hm i d t = dst N ((i + u) % (2 * N)) (hm (sl ((i + u) % (2 * N)) - 1)) + 2
  | 0 => .inl rfl
  | t + 1 => by
    simp only [rOf]
    rcases Nat.lt_or_ge (rOf N sl hm i d t) (dst N ((i + t) % (2 * N)) (hm (sl ((i + t) % (2 * N)) - 1)) + 2) with h | h
    · exact .inr ⟨t, by omega, by omega⟩
    · rcases rOf_hit N sl hm i d t with h2 | ⟨u, hu, h2⟩
      · exact .inl (by omega)
      · exact .inr ⟨u, by omega, by omega⟩
end Go.Proofs.Ybulkdoqu
