import Derived.Test.YbulkdoquRing
namespace Go.Proofs.Ybulkdoqu

/-! ### the ring over the whole line -/
structure Circ (M : Int) (s : Int → Nat) (δ : Int → Int) : Prop where
  per : ∀ x, s (x + M) = s x
  perδ : ∀ x, δ (x + M) = δ x
  nn : ∀ x, s x ≠ 0 → 0 ≤ δ x ∧ δ x < M
  path : ∀ x, s x ≠ 0 → ∀ t, 0 ≤ t → t ≤ δ x → s (x - t) ≠ 0
  near : ∀ x, s x ≠ 0 → s (x + 1) ≠ 0 → δ (x + 1) ≤ δ x + 1

theorem per_mul {M : Int} {α : Type} {f : Int → α} (h : ∀ x, f (x + M) = f x) : ∀ (k : Nat) x, f (x + M * k) = f x
  | 0, x => by simp
  | k + 1, x => by
    have := per_mul h k x
    rw [show x + M * ((k + 1 : Nat) : Int) = (x + M * k) + M by rw [Int.natCast_add, Int.mul_add]; simp; omega, h, this]

theorem per_int {M : Int} {α : Type} {f : Int → α} (h : ∀ x, f (x + M) = f x) (k : Int) (x : Int) : f (x + M * k) = f x := by
  rcases Int.eq_nat_or_neg k with ⟨n, rfl | rfl⟩
  · exact per_mul h n x
  · have := per_mul h n (x + M * -(n : Int))
    rw [← this]
    congr 1
    rw [Int.mul_neg]; omega

/-- every point lies in the window that begins at i -/
theorem window {M : Int} (hM : 0 < M) (i x : Int) : ∃ t k, 0 ≤ t ∧ t < M ∧ x = i + t + M * k :=
  ⟨(x - i) % M, (x - i) / M, Int.emod_nonneg _ (by omega), Int.emod_lt_of_pos _ hM, by have := Int.emod_add_mul_ediv (x - i) M; omega⟩

/-- a resident's way: every slot before it, from its home on, holds a resident no nearer its own home -/
theorem Circ.far {M : Int} {s : Int → Nat} {δ : Int → Int} (h : Circ M s δ) {x : Int} (hx : s x ≠ 0) : ∀ t : Nat, (t : Int) ≤ δ x → s (x - t) ≠ 0 ∧ δ x - t ≤ δ (x - t)
  | 0, _ => by simp [hx]
  | t + 1, ht => by
    obtain ⟨h1, h2⟩ := h.far hx t (by omega)
    have h3 := h.path x hx ((t : Int) + 1) (by omega) (by omega)
    have e : x - ((t : Int) + 1) + 1 = x - t := by omega
    have h4 := h.near _ h3 (by rw [e]; exact h1)
    rw [e] at h4
    refine ⟨by rw [Int.natCast_add]; exact h3, ?_⟩
    rw [Int.natCast_add]
    simp only [Int.natCast_one]
    omega

/-- where one slot is empty no resident lies a whole round off -/
theorem Circ.short {M : Int} {s : Int → Nat} {δ : Int → Int} (h : Circ M s δ) (hM : 0 < M) {y : Int} (hy : s y = 0) {x : Int} (hx : s x ≠ 0) : δ x + 1 < M := by
  apply Int.lt_of_not_ge
  intro hge
  obtain ⟨h0, h1⟩ := h.nn x hx
  obtain ⟨t, k, t0, t1, e⟩ := window hM (x - δ x) y
  have hp := h.path x hx (δ x - t) (by omega) (by omega)
  rw [show x - (δ x - t) = x - δ x + t by omega] at hp
  rw [e, per_int h.per] at hy
  exact hp hy

/-- the new ring: v at i, the residents of [i, i+e) one on -/
structure Shift (M : Int) (s s' : Int → Nat) (δ δ' : Int → Int) (i : Int) (e : Int) (d : Int) (v : Nat) : Prop where
  e0 : 0 ≤ e
  e1 : e + 1 < M
  hv : v ≠ 0
  full : ∀ t, 0 ≤ t → t < e → s (i + t) ≠ 0
  emp : s (i + e) = 0
  per : ∀ x, s' (x + M) = s' x
  perδ : ∀ x, δ' (x + M) = δ' x
  at0 : s' i = v
  d0 : δ' i = d
  at1 : ∀ t, 1 ≤ t → t ≤ e → s' (i + t) = s (i + t - 1)
  d1 : ∀ t, 1 ≤ t → t ≤ e → δ' (i + t) = δ (i + t - 1) + 1
  at2 : ∀ t, e < t → t < M → s' (i + t) = s (i + t)
  d2 : ∀ t, e < t → t < M → δ' (i + t) = δ (i + t)
  dd : 0 ≤ d ∧ d < M
  pre : ∀ t, 0 ≤ t → t < d → s (i - d + t) ≠ 0 ∧ t ≤ δ (i - d + t)
  stop : s i ≠ 0 → δ i < d

theorem Shift.more {M : Int} {s s' : Int → Nat} {δ δ' : Int → Int} {i e d : Int} {v : Nat} (h : Circ M s δ) (k : Shift M s s' δ δ' i e d v) {x : Int} (hx : s x ≠ 0) : s' x ≠ 0 := by
  obtain ⟨t, q, t0, t1, rfl⟩ := window (M := M) (by have := k.e0; have := k.e1; omega) i x
  rw [per_int h.per] at hx
  rw [per_int k.per]
  by_cases h0 : t = 0
  · subst h0; rw [Int.add_zero, k.at0]; exact k.hv
  · by_cases h1 : t ≤ e
    · rw [k.at1 t (by omega) h1, show i + t - 1 = i + (t - 1) by omega]
      exact k.full (t - 1) (by omega) (by omega)
    · rw [k.at2 t (by omega) t1]; exact hx

theorem Shift.circ {M : Int} {s s' : Int → Nat} {δ δ' : Int → Int} {i e d : Int} {v : Nat} (h : Circ M s δ) (k : Shift M s s' δ δ' i e d v) : Circ M s' δ' := by
  have hM : 0 < M := by have := k.e0; have := k.e1; omega
  have e0 := k.e0
  have e1 := k.e1
  have hsh : ∀ x, s x ≠ 0 → δ x + 1 < M := fun x hx => h.short hM k.emp hx
  -- what the new ring holds at an offset
  refine ⟨k.per, k.perδ, ?_, ?_, ?_⟩
  · intro x hx
    obtain ⟨t, q, t0, t1, rfl⟩ := window hM i x
    rw [per_int k.per] at hx
    rw [per_int k.perδ]
    by_cases h0 : t = 0
    · subst h0; rw [Int.add_zero, k.d0]; exact k.dd
    · by_cases h1 : t ≤ e
      · rw [k.at1 t (by omega) h1] at hx
        rw [k.d1 t (by omega) h1]
        have := h.nn _ hx
        have := hsh _ hx
        omega
      · rw [k.at2 t (by omega) t1] at hx
        rw [k.d2 t (by omega) t1]
        exact h.nn _ hx
  · intro x hx u u0 u1
    obtain ⟨t, q, t0, t1, rfl⟩ := window hM i x
    rw [per_int k.per] at hx
    rw [per_int k.perδ] at u1
    rw [show i + t + M * q - u = i + t - u + M * q by omega, per_int k.per]
    by_cases h0 : t = 0
    · subst h0
      rw [Int.add_zero, k.d0] at u1
      rw [Int.add_zero]
      by_cases hu : u = 0
      · subst hu; rw [Int.sub_zero, k.at0]; exact k.hv
      · have := (k.pre (d - u) (by omega) (by omega)).1
        rw [show i - d + (d - u) = i - u by omega] at this
        exact k.more h this
    · by_cases h1 : t ≤ e
      · rw [k.at1 t (by omega) h1] at hx
        rw [k.d1 t (by omega) h1] at u1
        by_cases hu : u = 0
        · subst hu; rw [Int.sub_zero, k.at1 t (by omega) h1]; exact hx
        · have := h.path _ hx (u - 1) (by omega) (by omega)
          rw [show i + t - 1 - (u - 1) = i + t - u by omega] at this
          exact k.more h this
      · rw [k.at2 t (by omega) t1] at hx
        rw [k.d2 t (by omega) t1] at u1
        exact k.more h (h.path _ hx u u0 u1)
  · intro x hx hy
    obtain ⟨t, q, t0, t1, rfl⟩ := window hM i x
    rw [show i + t + M * q + 1 = i + (t + 1) + M * q by omega] at hy ⊢
    rw [per_int k.per] at hx hy
    rw [per_int k.perδ, per_int k.perδ]
    by_cases hw : t + 1 = M
    · -- the slot ahead of i
      rw [show i + (t + 1) = i + M by omega, k.perδ, k.d0]
      rw [k.at2 t (by omega) t1] at hx
      rw [k.d2 t (by omega) t1]
      have hnn := h.nn _ hx
      by_cases hd0 : d = 0
      · omega
      · have := (k.pre (d - 1) (by have := k.dd; omega) (by omega)).2
        have e2 : δ (i - d + (d - 1)) = δ (i + t) := by
          rw [← h.perδ]; congr 1; omega
        rw [e2] at this
        omega
    · by_cases h0 : t = 0
      · subst h0
        rw [Int.add_zero, k.d0]
        simp only [Int.zero_add] at hy ⊢
        by_cases h1 : 1 ≤ e
        · rw [k.d1 1 (by omega) h1, show i + 1 - 1 = i by omega]
          have := k.stop (by have := k.full 0 (by omega) (by omega); rwa [Int.add_zero] at this)
          omega
        · have he : e = 0 := by omega
          rw [k.at2 1 (by omega) (by omega)] at hy
          rw [k.d2 1 (by omega) (by omega)]
          have hz : δ (i + 1) = 0 := by
            have hnn := h.nn _ hy
            apply Classical.byContradiction
            intro hne
            have := h.path _ hy 1 (by omega) (by omega)
            rw [show i + 1 - 1 = i + e by omega] at this
            exact this k.emp
          have := k.dd
          omega
      · by_cases h1 : t + 1 ≤ e
        · rw [k.at1 t (by omega) (by omega)] at hx
          rw [k.at1 (t + 1) (by omega) h1] at hy
          rw [k.d1 t (by omega) (by omega), k.d1 (t + 1) (by omega) h1]
          have := h.near (i + t - 1) hx (by rw [show i + t - 1 + 1 = i + (t + 1) - 1 by omega]; exact hy)
          rw [show i + t - 1 + 1 = i + (t + 1) - 1 by omega] at this
          omega
        · by_cases h2 : t = e
          · subst h2
            rw [k.at1 t (by omega) (by omega)] at hx
            rw [k.at2 (t + 1) (by omega) (by omega)] at hy
            rw [k.d1 t (by omega) (by omega), k.d2 (t + 1) (by omega) (by omega)]
            have hz : δ (i + (t + 1)) = 0 := by
              have hnn := h.nn _ hy
              apply Classical.byContradiction
              intro hne
              have := h.path _ hy 1 (by omega) (by omega)
              rw [show i + (t + 1) - 1 = i + t by omega] at this
              exact this k.emp
            have := h.nn _ hx
            omega
          · rw [k.at2 t (by omega) t1] at hx
            rw [k.at2 (t + 1) (by omega) (by omega)] at hy
            rw [k.d2 t (by omega) t1, k.d2 (t + 1) (by omega) (by omega)]
            have := h.near (i + t) hx (by rw [show i + t + 1 = i + (t + 1) by omega]; exact hy)
            rw [show i + t + 1 = i + (t + 1) by omega] at this
            exact this
end Go.Proofs.Ybulkdoqu
