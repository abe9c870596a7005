import Derived.Test.YbulkdoquCirc
namespace Go.Proofs.Ybulkdoqu

/-- neighbours of one home in the new ring were neighbours of one home, or the right one is the new key -/
theorem Shift.pairs {M : Int} {s s' : Int → Nat} {δ δ' : Int → Int} {i e d : Int} {v : Nat} (h : Circ M s δ) (k : Shift M s s' δ δ' i e d v) {x : Int} (hx : s' x ≠ 0) (hy : s' (x + 1) ≠ 0) (he : δ' (x + 1) = δ' x + 1) :
    (∃ y, s y ≠ 0 ∧ s (y + 1) ≠ 0 ∧ δ (y + 1) = δ y + 1 ∧ s' x = s y ∧ s' (x + 1) = s (y + 1)) ∨ (s' (x + 1) = v ∧ ∃ y, s y ≠ 0 ∧ s' x = s y) := by
  have hM : 0 < M := by have := k.e0; have := k.e1; omega
  have e0 := k.e0
  have e1 := k.e1
  obtain ⟨t, q, t0, t1, rfl⟩ := window hM i x
  rw [show i + t + M * q + 1 = i + (t + 1) + M * q by omega] at hy he ⊢
  rw [per_int k.per] at hx hy
  rw [per_int k.perδ, per_int k.perδ] at he
  rw [per_int k.per, per_int k.per]
  by_cases hw : t + 1 = M
  · refine .inr ⟨by rw [show i + (t + 1) = i + M by omega, k.per, k.at0], i + t, ?_, k.at2 t (by omega) t1⟩
    rw [← k.at2 t (by omega) t1]; exact hx
  · by_cases h0 : t = 0
    · exfalso
      subst h0
      rw [Int.add_zero, k.d0] at he
      simp only [Int.zero_add] at hy he
      by_cases h1 : 1 ≤ e
      · rw [k.d1 1 (by omega) h1, show i + 1 - 1 = i by omega] at he
        have := k.stop (by have := k.full 0 (by omega) (by omega); rwa [Int.add_zero] at this)
        omega
      · have he0 : e = 0 := by omega
        rw [k.at2 1 (by omega) (by omega)] at hy
        rw [k.d2 1 (by omega) (by omega)] at he
        have hz : δ (i + 1) = 0 := by
          have hnn := h.nn _ hy
          apply Classical.byContradiction
          intro hne
          have := h.path _ hy 1 (by omega) (by omega)
          rw [show i + 1 - 1 = i + e by omega] at this
          exact this k.emp
        have := k.dd
        omega
    · by_cases h1 : t + 1 ≤ e
      · rw [k.d1 t (by omega) (by omega), k.d1 (t + 1) (by omega) h1] at he
        rw [k.at1 t (by omega) (by omega)] at hx ⊢
        rw [k.at1 (t + 1) (by omega) h1] at hy ⊢
        refine .inl ⟨i + t - 1, hx, ?_, ?_, rfl, ?_⟩
        · rw [show i + t - 1 + 1 = i + (t + 1) - 1 by omega]; exact hy
        · rw [show i + t - 1 + 1 = i + (t + 1) - 1 by omega]; omega
        · rw [show i + t - 1 + 1 = i + (t + 1) - 1 by omega]
      · by_cases h2 : t = e
        · exfalso
          subst h2
          rw [k.at1 t (by omega) (by omega)] at hx
          rw [k.at2 (t + 1) (by omega) (by omega)] at hy
          rw [k.d1 t (by omega) (by omega), k.d2 (t + 1) (by omega) (by omega)] at he
          have hz : δ (i + (t + 1)) = 0 := by
            have hnn := h.nn _ hy
            apply Classical.byContradiction
            intro hne
            have := h.path _ hy 1 (by omega) (by omega)
            rw [show i + (t + 1) - 1 = i + t by omega] at this
            exact this k.emp
          have := h.nn _ hx
          omega
        · rw [k.d2 t (by omega) t1, k.d2 (t + 1) (by omega) (by omega)] at he
          rw [k.at2 t (by omega) t1] at hx ⊢
          rw [k.at2 (t + 1) (by omega) (by omega)] at hy ⊢
          refine .inl ⟨i + t, hx, ?_, ?_, rfl, ?_⟩
          · rw [show i + t + 1 = i + (t + 1) by omega]; exact hy
          · rw [show i + t + 1 = i + (t + 1) by omega]; omega
          · rw [show i + t + 1 = i + (t + 1) by omega]

/-! ### places and keys -/
/-- one more than the newest place below q of key a, or 0 -/
def lastOf (κ : Nat → Nat) (a : Nat) : Nat → Nat
  | 0 => 0
  | q + 1 => if κ q = a then q + 1 else lastOf κ a q
/-- one more than the first place below q of key a, or 0 -/
def fstOf (κ : Nat → Nat) (a : Nat) : Nat → Nat
  | 0 => 0
  | q + 1 => if fstOf κ a q = 0 then (if κ q = a then q + 1 else 0) else fstOf κ a q
/-- the number of keys below place q -/
def dc (κ : Nat → Nat) : Nat → Nat
  | 0 => 0
  | q + 1 => dc κ q + (if lastOf κ (κ q) q = 0 then 1 else 0)
/-- the number of full slots below m -/
def fullN (sl : Nat → Nat) : Nat → Nat
  | 0 => 0
  | m + 1 => fullN sl m + (if sl m = 0 then 0 else 1)

theorem lastOf_le (κ : Nat → Nat) (a : Nat) : ∀ q, lastOf κ a q ≤ q
  | 0 => Nat.le_refl _
  | q + 1 => by have := lastOf_le κ a q; unfold lastOf; split <;> omega
theorem lastOf_key (κ : Nat → Nat) (a : Nat) : ∀ q, lastOf κ a q ≠ 0 → κ (lastOf κ a q - 1) = a
  | 0, h => absurd rfl h
  | q + 1, h => by
    unfold lastOf at h ⊢
    split
    · simpa
    · rename_i hn
      rw [if_neg hn] at h
      exact lastOf_key κ a q h
theorem lastOf_ge (κ : Nat → Nat) (a : Nat) : ∀ q p, p < q → κ p = a → p + 1 ≤ lastOf κ a q
  | 0, _, h, _ => absurd h (by omega)
  | q + 1, p, h, hp => by
    unfold lastOf
    split
    · omega
    · rename_i hn
      have : p ≠ q := fun e => hn (e ▸ hp)
      exact lastOf_ge κ a q p (by omega) hp
theorem fstOf_zero (κ : Nat → Nat) (a : Nat) : ∀ q, fstOf κ a q = 0 ↔ lastOf κ a q = 0
  | 0 => Iff.rfl
  | q + 1 => by
    have := fstOf_zero κ a q
    unfold fstOf lastOf
    by_cases h : κ q = a
    · rw [if_pos h, if_pos h]
      split
      · omega
      · constructor
        · intro h2; contradiction
        · omega
    · rw [if_neg h, if_neg h]
      split
      · rename_i h2; simp [this.1 h2]
      · exact this
theorem fstOf_le (κ : Nat → Nat) (a : Nat) : ∀ q, fstOf κ a q ≤ q
  | 0 => Nat.le_refl _
  | q + 1 => by have := fstOf_le κ a q; unfold fstOf; split <;> (try split) <;> omega
theorem fstOf_succ_old (κ : Nat → Nat) (a q : Nat) (h : fstOf κ a q ≠ 0) : fstOf κ a (q + 1) = fstOf κ a q := by
  show (if fstOf κ a q = 0 then _ else _) = _
  rw [if_neg h]
theorem fstOf_succ_new (κ : Nat → Nat) (q : Nat) (h : lastOf κ (κ q) q = 0) : fstOf κ (κ q) (q + 1) = q + 1 := by
  show (if fstOf κ (κ q) q = 0 then _ else _) = _
  rw [if_pos ((fstOf_zero _ _ _).2 h), if_pos rfl]
theorem lastOf_succ_same (κ : Nat → Nat) (q : Nat) : lastOf κ (κ q) (q + 1) = q + 1 := by
  show (if κ q = κ q then _ else _) = _
  rw [if_pos rfl]
theorem lastOf_succ_other (κ : Nat → Nat) (a q : Nat) (h : κ q ≠ a) : lastOf κ a (q + 1) = lastOf κ a q := by
  show (if κ q = a then _ else _) = _
  rw [if_neg h]
theorem dc_le (κ : Nat → Nat) : ∀ q, dc κ q ≤ q
  | 0 => Nat.le_refl _
  | q + 1 => by have := dc_le κ q; unfold dc; split <;> omega
theorem fullN_all (sl : Nat → Nat) : ∀ m, (∀ j, j < m → sl j ≠ 0) → fullN sl m = m
  | 0, _ => rfl
  | m + 1, h => by
    unfold fullN
    rw [if_neg (h m (by omega)), fullN_all sl m (fun j hj => h j (by omega))]
theorem fullN_but (sl : Nat → Nat) (j1 : Nat) : ∀ m, (∀ j, j < m → j ≠ j1 → sl j ≠ 0) → m ≤ fullN sl m + 1
  | 0, _ => by omega
  | m + 1, h => by
    unfold fullN
    by_cases e : m = j1
    · have := fullN_all sl m (fun j hj => h j (by omega) (by omega))
      omega
    · have := fullN_but sl j1 m (fun j hj => h j (by omega))
      rw [if_neg (h m (by omega) e)]
      omega
theorem fullN_same (sl sl' : Nat → Nat) : ∀ m, (∀ j, j < m → (sl' j = 0 ↔ sl j = 0)) → fullN sl' m = fullN sl m
  | 0, _ => rfl
  | m + 1, h => by
    unfold fullN
    rw [fullN_same sl sl' m (fun j hj => h j (by omega))]
    have := h m (by omega)
    by_cases e : sl m = 0
    · rw [if_pos e, if_pos (this.2 e)]
    · rw [if_neg e, if_neg (fun e2 => e (this.1 e2))]
theorem fullN_more (sl sl' : Nat → Nat) (j1 : Nat) (h0 : sl j1 = 0) (h1 : sl' j1 ≠ 0) : ∀ m, j1 < m → (∀ j, j < m → j ≠ j1 → (sl' j = 0 ↔ sl j = 0)) → fullN sl' m = fullN sl m + 1
  | 0, h, _ => absurd h (by omega)
  | m + 1, hm, h => by
    unfold fullN
    by_cases e : m = j1
    · rw [fullN_same sl sl' m (fun j hj => h j (by omega) (by omega)), e, if_pos h0, if_neg h1]
    · have := fullN_more sl sl' j1 h0 h1 m (by omega) (fun j hj => h j (by omega))
      rw [this]
      have h2 := h m (by omega) e
      by_cases e2 : sl m = 0
      · rw [if_pos e2, if_pos (h2.2 e2)]
      · rw [if_neg e2, if_neg (fun e3 => e2 (h2.1 e3))]
end Go.Proofs.Ybulkdoqu
