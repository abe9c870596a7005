import Derived.Test.YbulkdoquAdd
namespace Go.Proofs.Ybulkdoqu

/-! ### what the law's own loops count -/
/-- how many slots below m hold place q -/
def cn (sl : Nat → Nat) (q : Nat) : Nat → Nat
  | 0 => 0
  | m + 1 => cn sl q m + (if sl m = q + 1 then 1 else 0)
/-- one more than the greatest distance of a resident below m -/
def mxr (N : Nat) (sl κ H : Nat → Nat) : Nat → Nat
  | 0 => 0
  | m + 1 => if sl m = 0 then mxr N sl κ H m else if mxr N sl κ H m < dst N m (H (κ (sl m - 1))) + 1 then dst N m (H (κ (sl m - 1))) + 1 else mxr N sl κ H m

theorem cn_le (sl : Nat → Nat) (q : Nat) : ∀ m, cn sl q m ≤ m
  | 0 => Nat.le_refl _
  | m + 1 => by have := cn_le sl q m; unfold cn; split <;> omega
theorem cn_none (sl : Nat → Nat) (q : Nat) : ∀ m, (∀ j, j < m → sl j ≠ q + 1) → cn sl q m = 0
  | 0, _ => rfl
  | m + 1, h => by
    unfold cn
    rw [cn_none sl q m (fun j hj => h j (by omega)), if_neg (h m (by omega))]
theorem cn_one (sl : Nat → Nat) (q j : Nat) (hj : sl j = q + 1) : ∀ m, j < m → (∀ j', j' < m → sl j' = q + 1 → j' = j) → cn sl q m = 1
  | 0, h, _ => absurd h (by omega)
  | m + 1, h, hu => by
    unfold cn
    by_cases e : m = j
    · subst e
      rw [if_pos hj, cn_none sl q m (fun j' hj' e2 => by have := hu j' (by omega) e2; omega)]
    · rw [cn_one sl q j hj m (by omega) (fun j' hj' => hu j' (by omega)), if_neg (fun e2 => e (hu m (by omega) e2))]
theorem Tab.cn {N n : Nat} {κ H sl : Nat → Nat} {rch : Nat} (h : Tab N n κ H sl rch) (q : Nat) (hq : lastOf κ (κ q) n = q + 1) : cn sl q (2 * N) = 1 := by
  obtain ⟨j, hj, e⟩ := h.has (κ q) (by omega)
  rw [hq] at e
  exact cn_one sl q j e (2 * N) hj (fun j' hj' e2 => h.inj j' j hj' hj (e2.trans e.symm) (by omega))

theorem mxr_le (N : Nat) (sl κ H : Nat → Nat) (hN : 0 < N) : ∀ m, mxr N sl κ H m ≤ 2 * N
  | 0 => Nat.zero_le _
  | m + 1 => by
    have := mxr_le N sl κ H hN m
    have := dst_lt N m (H (κ (sl m - 1))) hN
    unfold mxr; split <;> (try split) <;> omega
theorem mxr_ge (N : Nat) (sl κ H : Nat → Nat) : ∀ m j, j < m → sl j ≠ 0 → dst N j (H (κ (sl j - 1))) + 1 ≤ mxr N sl κ H m
  | 0, _, h, _ => absurd h (by omega)
  | m + 1, j, h, h0 => by
    unfold mxr
    by_cases e : j = m
    · subst e
      rw [if_neg h0]
      split <;> omega
    · have := mxr_ge N sl κ H m j (by omega) h0
      split
      · exact this
      · split <;> omega
theorem mxr_hit (N : Nat) (sl κ H : Nat → Nat) : ∀ m, mxr N sl κ H m = 0 ∨ ∃ j, j < m ∧ sl j ≠ 0 ∧ mxr N sl κ H m = dst N j (H (κ (sl j - 1))) + 1
  | 0 => .inl rfl
  | m + 1 => by
    have ih := mxr_hit N sl κ H m
    have keep : (mxr N sl κ H m = 0 ∨ ∃ j, j < m + 1 ∧ sl j ≠ 0 ∧ mxr N sl κ H m = dst N j (H (κ (sl j - 1))) + 1) := by
      rcases ih with h | ⟨j, h1, h2, h3⟩
      · exact .inl h
      · exact .inr ⟨j, by omega, h2, h3⟩
    unfold mxr
    split
    · exact keep
    · rename_i h0
      split
      · exact .inr ⟨m, by omega, h0, rfl⟩
      · exact keep
theorem Tab.mxr {N n : Nat} {κ H sl : Nat → Nat} {rch : Nat} (h : Tab N n κ H sl rch) : mxr N sl κ H (2 * N) = rch := by
  have h1 : Ybulkdoqu.mxr N sl κ H (2 * N) ≤ rch := by
    rcases mxr_hit N sl κ H (2 * N) with e | ⟨j, hj, h0, e⟩
    · omega
    · rw [e]; exact h.top j hj h0
  rcases h.hit with e | ⟨j, hj, h0, e⟩
  · omega
  · have := mxr_ge N sl κ H (2 * N) j hj h0
    omega

/-- the way of a resident is full -/
theorem Tab.walk {N n : Nat} {κ H sl : Nat → Nat} {rch : Nat} (h : Tab N n κ H sl rch) (hN : 0 < N) (hH : ∀ a, H a < 2 * N) (j : Nat) (hj : j < 2 * N) (h0 : sl j ≠ 0) (t : Nat) (ht : t ≤ dst N j (H (κ (sl j - 1)))) : sl ((H (κ (sl j - 1)) + t) % (2 * N)) ≠ 0 := by
  have hl := (h.newest j hj h0).2
  obtain ⟨D, hD, e, hw⟩ := h.way hN (κ (sl j - 1)) (by rw [← hl]; exact h0)
  have hjD : (H (κ (sl j - 1)) + D) % (2 * N) = j := h.inj _ _ (Nat.mod_lt _ (by omega)) hj (e.trans hl.symm) (by rw [e, ← hl]; exact h0)
  have hd := dst_pos N (H (κ (sl j - 1))) D (hH _) hD
  rw [hjD] at hd
  exact (hw t (by omega)).1

/-- two full neighbours -/
theorem Tab.next {N n : Nat} {κ H sl : Nat → Nat} {rch : Nat} (h : Tab N n κ H sl rch) (hN : 0 < N) (j : Nat) (hj : j < 2 * N) (h0 : sl j ≠ 0) (h1 : sl ((j + 1) % (2 * N)) ≠ 0) :
    dst N ((j + 1) % (2 * N)) (H (κ (sl ((j + 1) % (2 * N)) - 1))) ≤ dst N j (H (κ (sl j - 1))) + 1 ∧
    (dst N ((j + 1) % (2 * N)) (H (κ (sl ((j + 1) % (2 * N)) - 1))) = dst N j (H (κ (sl j - 1))) + 1 → fstOf κ (κ (sl j - 1)) n ≤ fstOf κ (κ (sl ((j + 1) % (2 * N)) - 1)) n) := by
  have r0 : rg N sl (j : Int) = sl j := rg_lt N sl j hj
  have r1 : rg N sl ((j : Int) + 1) = sl ((j + 1) % (2 * N)) := by rw [show (j : Int) + 1 = ((j + 1 : Nat) : Int) by omega, rg_nat]
  have d0 : dl N sl κ H (j : Int) = ((dst N j (H (κ (sl j - 1))) : Nat) : Int) := by rw [dl_nat _ _ _ _ hN, Nat.mod_eq_of_lt hj]
  have d1 : dl N sl κ H ((j : Int) + 1) = ((dst N ((j + 1) % (2 * N)) (H (κ (sl ((j + 1) % (2 * N)) - 1))) : Nat) : Int) := by rw [show (j : Int) + 1 = ((j + 1 : Nat) : Int) by omega, dl_nat _ _ _ _ hN]
  refine ⟨?_, fun e => ?_⟩
  · have := h.circ.near (j : Int) (by rw [r0]; exact h0) (by rw [r1]; exact h1)
    rw [d0, d1] at this
    omega
  · have := h.ord (j : Int) (by rw [r0]; exact h0) (by rw [r1]; exact h1) (by rw [d0, d1]; omega)
    rw [r0, r1] at this
    exact this

/-! ### one more place: the law's own tables -/
theorem first_new (κ : Nat → Nat) (p a : Nat) (h : lastOf κ (κ p) p = 0) : (if a = κ p then p + 1 else fstOf κ a p) = fstOf κ a (p + 1) := by
  by_cases e : a = κ p
  · subst e
    rw [if_pos rfl, fstOf_succ_new κ p h]
  · rw [if_neg e]
    show _ = (if fstOf κ a p = 0 then _ else _)
    split
    · rename_i e0; rw [if_neg (fun e2 => e e2.symm), e0]
    · rfl
theorem first_old (κ : Nat → Nat) (p a : Nat) (h : lastOf κ (κ p) p ≠ 0) : fstOf κ a p = fstOf κ a (p + 1) := by
  by_cases e : a = κ p
  · subst e
    exact (fstOf_succ_old κ _ p (fun e => h ((fstOf_zero _ _ _).1 e))).symm
  · show _ = (if fstOf κ a p = 0 then _ else _)
    split
    · rename_i e0; rw [if_neg (fun e2 => e e2.symm), e0]
    · rfl
theorem last_next (κ : Nat → Nat) (p a : Nat) : (if a = κ p then p + 1 else lastOf κ a p) = lastOf κ a (p + 1) := by
  by_cases e : a = κ p
  · subst e; rw [if_pos rfl, lastOf_succ_same]
  · rw [if_neg e, lastOf_succ_other κ a p (fun e2 => e e2.symm)]
theorem dc_new (κ : Nat → Nat) (p : Nat) (h : lastOf κ (κ p) p = 0) : dc κ (p + 1) = dc κ p + 1 := by
  show dc κ p + (if _ then _ else _) = _
  rw [if_pos h]
theorem dc_old (κ : Nat → Nat) (p : Nat) (h : lastOf κ (κ p) p ≠ 0) : dc κ (p + 1) = dc κ p := by
  show dc κ p + (if _ then _ else _) = _
  rw [if_neg h, Nat.add_zero]

end Go.Proofs.Ybulkdoqu
