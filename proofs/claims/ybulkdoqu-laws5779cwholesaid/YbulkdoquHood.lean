import Derived.Test.YbulkdoquTab
namespace Go.Proofs.Ybulkdoqu

theorem emod_succ {M x : Int} (hM : 0 < M) (h : x % M + 1 < M) : (x + 1) % M = x % M + 1 := by
  have h1 := Int.emod_add_mul_ediv x M
  have h2 := Int.emod_nonneg x (show M ≠ 0 by omega)
  have e : x + 1 = (x % M + 1) + M * (x / M) := by omega
  rw [e, Int.add_mul_emod_self_left]
  have e2 : (x % M + 1 + M * (x / M)) % M = x % M + 1 := by rw [Int.add_mul_emod_self_left]; exact Int.emod_eq_of_lt (by omega) h
  rw [show x % M + 1 + M * (x / M) = x + 1 by omega] at e2
  exact Int.emod_eq_of_lt (by omega) h

/-- the slots behind 'file' -/
def newSl (N n i e : Nat) (sl : Nat → Nat) : Nat → Nat := fun x => if x = i then n + 1 else slAt N i e sl 0 x

theorem newSl_0 (N n i e : Nat) (sl : Nat → Nat) : newSl N n i e sl i = n + 1 := by unfold newSl; rw [if_pos rfl]
theorem pos_ne (N i t : Nat) (hi : i < 2 * N) (h0 : t ≠ 0) (ht : t < 2 * N) : (i + t) % (2 * N) ≠ i := fun e1 => by
  have := dst_pos N i t hi ht
  rw [e1, dst_eq _ _ _ hi hi, if_pos (Nat.le_refl _)] at this
  omega
theorem newSl_1 (N n i e t : Nat) (sl : Nat → Nat) (hi : i < 2 * N) (ht : t < e) (he : e < 2 * N) : newSl N n i e sl ((i + (t + 1)) % (2 * N)) = sl ((i + t) % (2 * N)) := by
  unfold newSl slAt
  rw [if_neg (pos_ne N i (t + 1) hi (by omega) (by omega)), dst_pos _ _ _ hi (by omega), if_pos (by omega), back_pos _ _ _ hi (by omega)]
theorem newSl_2 (N n i e t : Nat) (sl : Nat → Nat) (hi : i < 2 * N) (ht : e < t) (ht2 : t < 2 * N) : newSl N n i e sl ((i + t) % (2 * N)) = sl ((i + t) % (2 * N)) := by
  unfold newSl slAt
  rw [if_neg (pos_ne N i t hi (by omega) (by omega)), dst_pos _ _ _ hi (by omega), if_neg (by omega)]

/-- every slot is at an offset from i -/
theorem at_off (N i j : Nat) (hi : i < 2 * N) (hj : j < 2 * N) : ∃ t, t < 2 * N ∧ j = (i + t) % (2 * N) := ⟨dst N j i, dst_lt _ _ _ (by omega), (pos_dst N i j hi hj).symm⟩

theorem Tab.shift {N n : Nat} {κ H sl : Nat → Nat} {rch : Nat} (h : Tab N n κ H sl rch) (hN : 0 < N) (d e : Nat) (hd : d < 2 * N)
    (hpass : ∀ t, t < d → sl ((H (κ n) + t) % (2 * N)) ≠ 0 ∧ t ≤ dst N ((H (κ n) + t) % (2 * N)) (H (κ (sl ((H (κ n) + t) % (2 * N)) - 1))))
    (hstop : sl ((H (κ n) + d) % (2 * N)) = 0 ∨ dst N ((H (κ n) + d) % (2 * N)) (H (κ (sl ((H (κ n) + d) % (2 * N)) - 1))) < d)
    (he : e + 1 < 2 * N) (hfull : ∀ t, t < e → sl (((H (κ n) + d) % (2 * N) + t) % (2 * N)) ≠ 0) (hemp : sl (((H (κ n) + d) % (2 * N) + e) % (2 * N)) = 0) :
    Shift ((2 * N : Nat) : Int) (rg N sl) (rg N (newSl N n ((H (κ n) + d) % (2 * N)) e sl)) (dl N sl κ H) (dl N (newSl N n ((H (κ n) + d) % (2 * N)) e sl) κ H) (((H (κ n) + d) % (2 * N) : Nat) : Int) e d (n + 1) := by
  obtain ⟨i, hi0⟩ : ∃ i, i = (H (κ n) + d) % (2 * N) := ⟨_, rfl⟩
  have hi : i < 2 * N := by rw [hi0]; exact Nat.mod_lt _ (by omega)
  obtain ⟨q, hq⟩ : ∃ q : Int, ((i : Nat) : Int) = ((H (κ n) + d : Nat) : Int) + ((2 * N : Nat) : Int) * q := by
    have h2 := Int.emod_add_mul_ediv ((H (κ n) + d : Nat) : Int) ((2 * N : Nat) : Int)
    refine ⟨-(((H (κ n) + d : Nat) : Int) / ((2 * N : Nat) : Int)), ?_⟩
    rw [hi0, Int.natCast_emod, Int.mul_neg]
    omega
  rw [← hi0] at hfull hemp hstop ⊢
  have hr : ∀ t : Nat, rg N sl ((i : Int) + t) = sl ((i + t) % (2 * N)) := fun t => by rw [show (i : Int) + (t : Int) = ((i + t : Nat) : Int) by omega, rg_nat]
  have hr' : ∀ t : Nat, rg N (newSl N n i e sl) ((i : Int) + t) = newSl N n i e sl ((i + t) % (2 * N)) := fun t => by rw [show (i : Int) + (t : Int) = ((i + t : Nat) : Int) by omega, rg_nat]
  have hri : rg N (newSl N n i e sl) (i : Int) = n + 1 := by rw [rg_lt _ _ _ hi, newSl_0]
  have hempI : rg N sl ((i : Int) + (e : Int)) = 0 := by rw [hr]; exact hemp
  refine ⟨by omega, by omega, by omega, fun t t0 t1 => ?_, hempI, rg_per _ _, dl_per _ _ _ _, hri, ?_, fun t t0 t1 => ?_, fun t t0 t1 => ?_, fun t t0 t1 => ?_, fun t t0 t1 => ?_, ⟨by omega, by omega⟩, fun t t0 t1 => ?_, fun hx => ?_⟩
  · obtain ⟨u, rfl⟩ := Int.eq_ofNat_of_zero_le t0
    rw [hr]; exact hfull u (by omega)
  · unfold dl
    rw [hri, Nat.add_sub_cancel, hq, show ((H (κ n) + d : Nat) : Int) + ((2 * N : Nat) : Int) * q - (H (κ n) : Int) = (d : Int) + ((2 * N : Nat) : Int) * q by omega, Int.add_mul_emod_self_left]
    exact Int.emod_eq_of_lt (by omega) (by omega)
  · obtain ⟨u, rfl⟩ : ∃ u : Nat, t = ((u + 1 : Nat) : Int) := ⟨(t - 1).toNat, by omega⟩
    rw [hr', newSl_1 N n i e u sl hi (by omega) (by omega), show (i : Int) + ((u + 1 : Nat) : Int) - 1 = (i : Int) + (u : Int) by omega, hr]
  · obtain ⟨u, rfl⟩ : ∃ u : Nat, t = ((u + 1 : Nat) : Int) := ⟨(t - 1).toNat, by omega⟩
    have e1 : (i : Int) + ((u + 1 : Nat) : Int) - 1 = (i : Int) + (u : Int) := by omega
    have e2 : rg N (newSl N n i e sl) ((i : Int) + ((u + 1 : Nat) : Int)) = rg N sl ((i : Int) + (u : Int)) := by
      rw [hr', newSl_1 N n i e u sl hi (by omega) (by omega), hr]
    have hz : rg N sl ((i : Int) + (u : Int)) ≠ 0 := by rw [hr]; exact hfull u (by omega)
    have hs := h.circ.short (by omega) hempI hz
    rw [e1]
    unfold dl at hs ⊢
    rw [e2]
    rw [show (i : Int) + ((u + 1 : Nat) : Int) - (H (κ (rg N sl ((i : Int) + (u : Int)) - 1)) : Int) = (i : Int) + (u : Int) - (H (κ (rg N sl ((i : Int) + (u : Int)) - 1)) : Int) + 1 by omega]
    exact emod_succ (by omega) hs
  · obtain ⟨u, rfl⟩ : ∃ u : Nat, t = (u : Int) := ⟨t.toNat, by omega⟩
    rw [hr', newSl_2 N n i e u sl hi (by omega) (by omega), hr]
  · obtain ⟨u, rfl⟩ : ∃ u : Nat, t = (u : Int) := ⟨t.toNat, by omega⟩
    unfold dl
    rw [hr', newSl_2 N n i e u sl hi (by omega) (by omega), hr]
  · obtain ⟨u, rfl⟩ := Int.eq_ofNat_of_zero_le t0
    have e3 : (i : Int) - (d : Int) + (u : Int) = ((H (κ n) + u : Nat) : Int) + ((2 * N : Nat) : Int) * q := by omega
    rw [e3, per_int (rg_per N sl), per_int (dl_per N sl κ H), rg_nat, dl_nat _ _ _ _ hN]
    obtain ⟨p1, p2⟩ := hpass u (by omega)
    exact ⟨p1, by omega⟩
  · rw [rg_lt _ _ _ hi] at hx
    rw [dl_nat _ _ _ _ hN, Nat.mod_eq_of_lt hi]
    rcases hstop with h1 | h1
    · exact absurd h1 hx
    · omega

/-- a key that is not there is put -/
theorem Tab.insert {N n : Nat} {κ H sl : Nat → Nat} {rch : Nat} (h : Tab N n κ H sl rch) (hN : 0 < N) (i d e : Nat) (hd : d < 2 * N) (hi0 : i = (H (κ n) + d) % (2 * N))
    (hpass : ∀ t, t < d → sl ((H (κ n) + t) % (2 * N)) ≠ 0 ∧ t ≤ dst N ((H (κ n) + t) % (2 * N)) (H (κ (sl ((H (κ n) + t) % (2 * N)) - 1))))
    (hkeys : ∀ t, t < d → κ (sl ((H (κ n) + t) % (2 * N)) - 1) ≠ κ n)
    (hstop : sl i = 0 ∨ dst N i (H (κ (sl i - 1))) < d)
    (he : e + 1 < 2 * N) (hfull : ∀ t, t < e → sl ((i + t) % (2 * N)) ≠ 0) (hemp : sl ((i + e) % (2 * N)) = 0) :
    lastOf κ (κ n) n = 0 ∧ Tab N (n + 1) κ H (newSl N n i e sl) (max rch (rOf N sl (fun q => H (κ q)) i d e)) := by
  have hi : i < 2 * N := by rw [hi0]; exact Nat.mod_lt _ (by omega)
  have hab : lastOf κ (κ n) n = 0 := h.absent hN (κ n) d hkeys (by rw [← hi0]; exact hstop)
  have k : Shift ((2 * N : Nat) : Int) (rg N sl) (rg N (newSl N n i e sl)) (dl N sl κ H) (dl N (newSl N n i e sl) κ H) (i : Int) e d (n + 1) := by
    subst hi0
    exact h.shift hN d e hd hpass hstop he hfull hemp
  have hnk : ∀ j, j < 2 * N → sl j ≠ 0 → κ n ≠ κ (sl j - 1) := fun j hj h0 e1 => by
    have := (h.newest j hj h0).2
    rw [← e1, hab] at this
    exact h0 this
  have hle : ∀ j, j < 2 * N → sl j ≤ n := fun j hj => by
    by_cases e1 : sl j = 0
    · omega
    · exact (h.newest j hj e1).1
  have hmod : ∀ t, (i + t) % (2 * N) < 2 * N := fun t => Nat.mod_lt _ (by omega)
  -- the three kinds of slots
  have cases3 : ∀ j, j < 2 * N → j = i ∨ (∃ t, t < e ∧ j = (i + (t + 1)) % (2 * N) ∧ newSl N n i e sl j = sl ((i + t) % (2 * N))) ∨ (∃ t, e < t ∧ t < 2 * N ∧ j = (i + t) % (2 * N) ∧ newSl N n i e sl j = sl j) := fun j hj => by
    obtain ⟨t, ht, rfl⟩ := at_off N i j hi hj
    by_cases t0 : t = 0
    · subst t0; exact .inl (by rw [Nat.add_zero, Nat.mod_eq_of_lt hi])
    · by_cases t1 : t ≤ e
      · obtain ⟨u, rfl⟩ : ∃ u, t = u + 1 := ⟨t - 1, by omega⟩
        exact .inr (.inl ⟨u, by omega, rfl, newSl_1 N n i e u sl hi (by omega) (by omega)⟩)
      · exact .inr (.inr ⟨t, by omega, ht, rfl, newSl_2 N n i e t sl hi (by omega) ht⟩)
  have hdst1 : ∀ t, t < e → dst N ((i + (t + 1)) % (2 * N)) (H (κ (sl ((i + t) % (2 * N)) - 1))) = dst N ((i + t) % (2 * N)) (H (κ (sl ((i + t) % (2 * N)) - 1))) + 1 := fun t ht => by
    have h1 := k.d1 ((t + 1 : Nat) : Int) (by omega) (by omega)
    rw [show (i : Int) + ((t + 1 : Nat) : Int) - 1 = ((i + t : Nat) : Int) by omega, show (i : Int) + ((t + 1 : Nat) : Int) = ((i + (t + 1) : Nat) : Int) by omega, dl_nat _ _ _ _ hN, dl_nat _ _ _ _ hN, newSl_1 N n i e t sl hi ht (by omega)] at h1
    omega
  have hdsti : dst N i (H (κ n)) = d := by
    have h1 := k.d0
    rw [dl_nat _ _ _ _ hN, Nat.mod_eq_of_lt hi, newSl_0, Nat.add_sub_cancel] at h1
    omega
  have hfst : ∀ x, rg N sl x ≠ 0 → fstOf κ (κ (rg N sl x - 1)) (n + 1) = fstOf κ (κ (rg N sl x - 1)) n := fun x hx => fstOf_succ_old _ _ _ (h.fstx hN x hx)
  refine ⟨hab, k.circ h.circ, fun x hx hy hxy => ?_, fun j hj hj0 => ?_, fun a ha => ?_, fun j j' hj hj' hjj hj0 => ?_, fun j hj hj0 => ?_, ?_, ?_⟩
  · rcases k.pairs h.circ hx hy hxy with ⟨y, y0, y1, yd, ex, ey⟩ | ⟨ey, y, y0, ex⟩
    · rw [ex, ey, hfst y y0, hfst (y + 1) y1]
      exact h.ord y y0 y1 yd
    · rw [ex, ey, hfst y y0, Nat.add_sub_cancel, fstOf_succ_new κ n hab]
      have := fstOf_le κ (κ (rg N sl y - 1)) n
      omega
  · rcases cases3 j hj with rfl | ⟨t, ht, rfl, ev⟩ | ⟨t, ht, ht2, rfl, ev⟩
    · rw [newSl_0, Nat.add_sub_cancel, lastOf_succ_same]; exact ⟨Nat.le_refl _, rfl⟩
    · rw [ev] at hj0 ⊢
      have := h.newest _ (hmod t) hj0
      rw [lastOf_succ_other _ _ _ (hnk _ (hmod t) hj0)]
      exact ⟨by omega, this.2⟩
    · rw [ev] at hj0 ⊢
      have := h.newest _ (hmod t) hj0
      rw [lastOf_succ_other _ _ _ (hnk _ (hmod t) hj0)]
      exact ⟨by omega, this.2⟩
  · by_cases ea : κ n = a
    · subst ea
      exact ⟨i, hi, by rw [newSl_0, lastOf_succ_same]⟩
    · rw [lastOf_succ_other _ _ _ ea] at ha ⊢
      obtain ⟨j, hj, hje⟩ := h.has a ha
      obtain ⟨t, ht, rfl⟩ := at_off N i j hi hj
      have hte : t ≠ e := fun e1 => by
        rw [e1, hemp] at hje
        exact ha hje.symm
      rcases Nat.lt_or_ge t e with h1 | h1
      · exact ⟨(i + (t + 1)) % (2 * N), hmod _, by rw [newSl_1 N n i e t sl hi h1 (by omega)]; exact hje⟩
      · exact ⟨(i + t) % (2 * N), hmod _, by rw [newSl_2 N n i e t sl hi (by omega) ht]; exact hje⟩
  · have hoff : ∀ t t', t < 2 * N → t' < 2 * N → (i + t) % (2 * N) = (i + t') % (2 * N) → t = t' := fun t t' h1 h2 h3 => by
      have a1 := dst_pos N i t hi h1
      have a2 := dst_pos N i t' hi h2
      rw [h3] at a1
      omega
    rcases cases3 j hj with rfl | ⟨t, ht, rfl, ev⟩ | ⟨t, ht, ht2, rfl, ev⟩
    · rw [newSl_0] at hjj
      rcases cases3 j' hj' with rfl | ⟨t', ht', rfl, ev'⟩ | ⟨t', ht', ht2', rfl, ev'⟩
      · rfl
      · rw [ev'] at hjj; have := hle _ (hmod t'); omega
      · rw [ev'] at hjj; have := hle _ (hmod t'); omega
    · rw [ev] at hjj hj0
      rcases cases3 j' hj' with rfl | ⟨t', ht', rfl, ev'⟩ | ⟨t', ht', ht2', rfl, ev'⟩
      · rw [newSl_0] at hjj; have := hle _ (hmod t); omega
      · rw [ev'] at hjj
        have := hoff t t' (by omega) (by omega) (h.inj _ _ (hmod t) (hmod t') hjj hj0)
        rw [this]
      · rw [ev'] at hjj
        have := hoff t t' (by omega) (by omega) (h.inj _ _ (hmod t) (hmod t') hjj hj0)
        omega
    · rw [ev] at hjj hj0
      rcases cases3 j' hj' with rfl | ⟨t', ht', rfl, ev'⟩ | ⟨t', ht', ht2', rfl, ev'⟩
      · rw [newSl_0] at hjj; have := hle _ (hmod t); omega
      · rw [ev'] at hjj
        have := hoff t t' (by omega) (by omega) (h.inj _ _ (hmod t) (hmod t') hjj hj0)
        omega
      · rw [ev'] at hjj
        have := hoff t t' (by omega) (by omega) (h.inj _ _ (hmod t) (hmod t') hjj hj0)
        rw [this]
  · rcases cases3 j hj with rfl | ⟨t, ht, rfl, ev⟩ | ⟨t, ht, ht2, rfl, ev⟩
    · rw [newSl_0, Nat.add_sub_cancel, hdsti]
      have := rOf_ge0 N sl (fun q => H (κ q)) j d e
      omega
    · rw [ev, hdst1 t ht]
      have := rOf_ge N sl (fun q => H (κ q)) i d e t ht
      omega
    · rw [ev] at hj0 ⊢
      have := h.top _ (hmod t) hj0
      omega
  · rcases Nat.lt_or_ge rch (rOf N sl (fun q => H (κ q)) i d e) with h1 | h1
    · rw [Nat.max_eq_right (by omega)]
      rcases rOf_hit N sl (fun q => H (κ q)) i d e with h2 | ⟨u, hu, h2⟩
      · exact .inr ⟨i, hi, by rw [newSl_0]; omega, by rw [newSl_0, Nat.add_sub_cancel, hdsti, h2]⟩
      · exact .inr ⟨(i + (u + 1)) % (2 * N), hmod _, by rw [newSl_1 N n i e u sl hi hu (by omega)]; exact hfull u hu, by rw [newSl_1 N n i e u sl hi hu (by omega), hdst1 u hu, h2]⟩
    · rw [Nat.max_eq_left h1]
      rcases h.hit with h2 | ⟨j, hj, hj0, h2⟩
      · exact .inl h2
      · obtain ⟨t, ht, rfl⟩ := at_off N i j hi hj
        have hte : e < t := by
          apply Nat.lt_of_not_le
          intro hle2
          by_cases e1 : t = e
          · rw [e1] at hj0; exact hj0 hemp
          · have := rOf_ge N sl (fun q => H (κ q)) i d e t (by omega)
            omega
        exact .inr ⟨(i + t) % (2 * N), hmod _, by rw [newSl_2 N n i e t sl hi hte ht]; exact hj0, by rw [newSl_2 N n i e t sl hi hte ht]; exact h2⟩
  · have hnz : newSl N n i e sl ((i + e) % (2 * N)) ≠ 0 := by
      cases e with
      | zero => rw [Nat.add_zero, Nat.mod_eq_of_lt hi, newSl_0]; omega
      | succ e => rw [newSl_1 N n i (e + 1) e sl hi (by omega) (by omega)]; exact hfull e (by omega)
    rw [fullN_more sl (newSl N n i e sl) ((i + e) % (2 * N)) hemp hnz (2 * N) (hmod e) (fun j hj hne => ?_), h.cnt]
    · show dc κ n + 1 = dc κ n + _
      rw [if_pos hab]
    · rcases cases3 j hj with rfl | ⟨t, ht, rfl, ev⟩ | ⟨t, ht, ht2, rfl, ev⟩
      · rw [newSl_0]
        constructor
        · intro h1; omega
        · intro h1
          exfalso
          have := hfull 0 (by
            apply Nat.lt_of_not_le
            intro e0
            apply hne
            rw [show e = 0 by omega, Nat.add_zero, Nat.mod_eq_of_lt hi])
          rw [Nat.add_zero, Nat.mod_eq_of_lt hi] at this
          exact this h1
      · rw [ev]
        have h1 := hfull t ht
        constructor
        · intro h2; exact absurd h2 h1
        · intro h2
          refine absurd h2 (hfull (t + 1) ?_)
          apply Nat.lt_of_not_le
          intro e0
          apply hne
          rw [show t + 1 = e by omega]
      · rw [ev]
end Go.Proofs.Ybulkdoqu
