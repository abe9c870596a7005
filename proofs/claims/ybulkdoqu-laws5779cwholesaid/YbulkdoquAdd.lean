/-
  'add' of the store: contract by memory, the plain index and the plain fields.
-/
import Derived.Test.YbulkdoquMem
import Derived.Deep.RegionLaw
namespace Go.Proofs.Ybulkdoqu
open Go.RowKit
set_option linter.unusedSimpArgs false

/-- what 'add' leaves -/
def Added (S B N sh n : Nat) (κ H kb : Nat → Nat) (vl : Nat → Value) (w : World) (en : Ending) (w' : World) : Prop :=
  en = .returned (.tuple #[]) ∧ ∃ sl' rch', Mem S B N sh (n + 1) rch' kb vl (pvOf κ (n + 1)) (kyOf κ (n + 1)) sl' w' ∧ Tab N (n + 1) κ H sl' rch' ∧ Only w w' (fun k => k = S ∨ k = B)

theorem Mem.recast {S B N sh n rch : Nat} {kb : Nat → Nat} {vl : Nat → Value} {pv ky sl pv' ky' : Nat → Nat} {w : World} (h : Mem S B N sh n rch kb vl pv ky sl w) (h1 : ∀ q, q < N → pv q = pv' q) (h2 : ∀ q, q < N → ky q = ky' q) : Mem S B N sh n rch kb vl pv' ky' sl w :=
  ⟨h.ne, h.c0, h.c1, h.c2, h.c3, h.f3, h.key, h.val, fun q hq => by rw [← h1 q hq]; exact h.prev q hq, fun q hq => by rw [← h2 q hq]; exact h.keys q hq, h.slot, h.fr⟩

theorem Tab.rch_le {N n : Nat} {κ H sl : Nat → Nat} {rch : Nat} (h : Tab N n κ H sl rch) (hN : 0 < N) : rch ≤ 2 * N := by
  rcases h.hit with h1 | ⟨j, hj, _, h1⟩
  · omega
  · have := dst_lt N j (H (κ (sl j - 1))) hN
    omega

theorem Tab.sl_le {N n : Nat} {κ H sl : Nat → Nat} {rch : Nat} (h : Tab N n κ H sl rch) (j : Nat) (hj : j < 2 * N) : sl j ≤ n := by
  by_cases e : sl j = 0
  · omega
  · exact (h.newest j hj e).1

/-- the fields behind a put of a new key -/
theorem fields_new (κ : Nat → Nat) (n : Nat) (h : lastOf κ (κ n) n = 0) (q : Nat) : pvOf κ n q = pvOf κ (n + 1) q ∧ (if q = n then dc κ n + 1 else kyOf κ n q) = kyOf κ (n + 1) q := by
  unfold pvOf kyOf
  by_cases e : q = n
  · subst e
    rw [if_neg (by omega), if_pos (by omega), if_pos rfl, if_pos (by omega), h]
    refine ⟨rfl, ?_⟩
    show dc κ q + 1 = dc κ q + _
    rw [if_pos h]
  · rw [if_neg e]
    by_cases hlt : q < n
    · rw [if_pos hlt, if_pos (by omega), if_pos hlt, if_pos (by omega)]; exact ⟨rfl, rfl⟩
    · rw [if_neg hlt, if_neg (by omega), if_neg hlt, if_neg (by omega)]; exact ⟨rfl, rfl⟩

/-- .. of a key that was there -/
theorem fields_old (κ : Nat → Nat) (n x : Nat) (h : lastOf κ (κ n) n = x) (hx : x ≠ 0) (q : Nat) : (if q = n then x else pvOf κ n q) = pvOf κ (n + 1) q ∧ (if q = n then dc κ n else if q = n then dc κ n + 1 else kyOf κ n q) = kyOf κ (n + 1) q := by
  unfold pvOf kyOf
  by_cases e : q = n
  · subst e
    rw [if_pos rfl, if_pos (by omega), if_pos rfl, if_pos (by omega), h]
    refine ⟨rfl, ?_⟩
    show dc κ q = dc κ q + _
    rw [if_neg (by rw [h]; exact hx)]
    rfl
  · rw [if_neg e, if_neg e, if_neg e]
    by_cases hlt : q < n
    · rw [if_pos hlt, if_pos (by omega), if_pos hlt, if_pos (by omega)]; exact ⟨rfl, rfl⟩
    · rw [if_neg hlt, if_neg (by omega), if_neg hlt, if_neg (by omega)]; exact ⟨rfl, rfl⟩

set_option maxRecDepth 1000000 in
set_option maxHeartbeats 2000000 in
theorem add_more (S B N sh n rch k1 : Nat) (κ H : Nat → Nat) (kb : Nat → Nat) (vl : Nat → Value) (sl : Nat → Nat) (hs : Nat → Int) (w : World) (v : Value) (hv : vl (n + 1) = .iface 3 v)
    (hM : Mem S B N sh (n + 1) rch kb vl (pvOf κ (n + 1)) (kyOf κ (n + 1)) sl w) (hK : Keyed S B (n + 2) kb hs w) (hT : Tab N (n + 1) κ H sl rch) (hk1 : 2 * N = 2 ^ k1) (hN : N ≤ 256) (hnN : n + 1 < N) (hH : ∀ a, H a < 2 * N)
    (hhm : ∀ q, q < n + 2 → hs q / 2 ^ min sh 64 = H (κ q)) (hinj : ∀ q, q < n + 1 → (kb q = kb (n + 1) ↔ κ q = κ (n + 1))) (hpl : ∀ q, q < n + 2 → Plain w (kb q)) :
    Calls Yba.prog 7 #[.pointer (some ⟨S, 0, none⟩), .int .u32 (n + 1 : Nat), .agg #[.pointer (some ⟨kb (n + 1), 0, none⟩), .iface 3 v]] w (Added S B N sh (n + 1) κ H kb vl w) := by
  have c0 := hM.c0
  have hne1 : S ≠ B := hM.ne
  have hne2 : B ≠ S := fun e => hM.ne e.symm
  have lS := World.block_lt_of_cell? w _ c0
  have ck0 := hM.key (n + 1) hnN
  have cv0 := hM.val (n + 1) hnN
  have cy0 := hM.keys (n + 1) hnN
  have cyn := hM.keys n (by omega)
  have lB := World.block_lt_of_cell? w _ ck0
  have fk := hM.fr ((n + 1) * 6)
  have fv := hM.fr ((n + 1) * 6 + 1)
  have fy := hM.fr ((n + 1) * 6 + 3)
  have hnI : ((n + 1 : Nat) : Int) < N := by omega
  have hnJ : ((n : Nat) : Int) < N := by omega
  have hyn : kyOf κ (n + 1) n = dc κ (n + 1) := by unfold kyOf; rw [if_pos (by omega)]
  rw [hyn] at cyn
  have hdc := dc_le κ (n + 1)
  have HM : Hid (Mem S B N sh (n + 1) rch kb vl (pvOf κ (n + 1)) (kyOf κ (n + 1)) sl w) := hM
  have HK : Hid (Keyed S B (n + 2) kb hs w) := hK
  have HT : Hid (Tab N (n + 1) κ H sl rch) := hT
  have HP : Hid (∀ q, q < n + 2 → Plain w (kb q)) := hpl
  have HI : Hid (∀ q, q < n + 1 → (kb q = kb (n + 1) ↔ κ q = κ (n + 1))) := hinj
  have HH : Hid (∀ a, H a < 2 * N) := hH
  have HS : Hid (∀ q, q < n + 2 → hs q / 2 ^ min sh 64 = H (κ q)) := hhm
  have HK1 : Hid (2 * N = 2 ^ k1) := hk1
  rw [if_neg (by omega)] at ck0 cv0
  clear hM hK hT hpl hinj hH hhm hk1 hyn
  generalize hy : dc κ (n + 1) = y at *
  have HY : Hid (dc κ (n + 1) = y) := hy
  clear hy
  have hyI : (y : Int) < 1000 := by omega
  go_enter Yba.func7, Yba.ntmps7
  go_wp2_with fail
  go_region
  rw [show (1 + (y : Int)) = ((y + 1 : Nat) : Int) by omega, ← hv]
  have HO2 : Hid (Only w ((((((w.setCell ⟨B, (n + 1) * 6, none⟩ (.pointer (some ⟨kb (n + 1), 0, none⟩))).setCell ⟨B, (n + 1) * 6 + 1, none⟩ (vl (n + 1))).setCell ⟨B, (n + 1) * 6 + 3, none⟩ (.int .u32 1)).setCell ⟨B, (n + 1) * 6 + 3, none⟩ (.int .u32 (y + 1 : Nat))).alloc (Obj.cells #[.pointer (some ⟨kb (n + 1), 0, none⟩), vl (n + 1)] 28)).drew) (fun k => k = S ∨ k = B)) :=
    ((((((Only.refl _ _).setCell _ (.inr rfl) _).setCell _ (.inr rfl) _).setCell _ (.inr rfl) _).setCell _ (.inr rfl) _).alloc _).drew
  have HM2 : Hid (Mem S B N sh (n + 2) rch kb vl (pvOf κ (n + 1)) (fun q => if q = n + 1 then y + 1 else kyOf κ (n + 1) q) sl ((((((w.setCell ⟨B, (n + 1) * 6, none⟩ (.pointer (some ⟨kb (n + 1), 0, none⟩))).setCell ⟨B, (n + 1) * 6 + 1, none⟩ (vl (n + 1))).setCell ⟨B, (n + 1) * 6 + 3, none⟩ (.int .u32 1)).setCell ⟨B, (n + 1) * 6 + 3, none⟩ (.int .u32 (y + 1 : Nat))).alloc (Obj.cells #[.pointer (some ⟨kb (n + 1), 0, none⟩), vl (n + 1)] 28)).drew)) :=
    (((((HM.out.put hnN).setKeys (n + 1) 1 hnN).setKeys (n + 1) (y + 1) hnN).recast (fun _ _ => rfl) (fun q _ => by by_cases e : q = n + 1 <;> simp [e])).below (by omega) ((Below.refl _ _).alloc (Nat.le_refl _) _)).drewN 1
  have HE0 : Hid (((((((w.setCell ⟨B, (n + 1) * 6, none⟩ (.pointer (some ⟨kb (n + 1), 0, none⟩))).setCell ⟨B, (n + 1) * 6 + 1, none⟩ (vl (n + 1))).setCell ⟨B, (n + 1) * 6 + 3, none⟩ (.int .u32 1)).setCell ⟨B, (n + 1) * 6 + 3, none⟩ (.int .u32 (y + 1 : Nat))).alloc (Obj.cells #[.pointer (some ⟨kb (n + 1), 0, none⟩), vl (n + 1)] 28)).drew).cell? ⟨w.heap.size, 0, none⟩ = some (.pointer (some ⟨kb (n + 1), 0, none⟩))) := by
    show _ = _
    have hsz : ((((w.setCell ⟨B, (n + 1) * 6, none⟩ (.pointer (some ⟨kb (n + 1), 0, none⟩))).setCell ⟨B, (n + 1) * 6 + 1, none⟩ (vl (n + 1))).setCell ⟨B, (n + 1) * 6 + 3, none⟩ (.int .u32 1)).setCell ⟨B, (n + 1) * 6 + 3, none⟩ (.int .u32 (y + 1 : Nat))).heap.size = w.heap.size := by simp [World.setCell]
    rw [World.cell?_drew, World.cell?_alloc_at _ _ _ _ hsz.symm]
    rfl
  generalize (((((w.setCell ⟨B, (n + 1) * 6, none⟩ (.pointer (some ⟨kb (n + 1), 0, none⟩))).setCell ⟨B, (n + 1) * 6 + 1, none⟩ (vl (n + 1))).setCell ⟨B, (n + 1) * 6 + 3, none⟩ (.int .u32 1)).setCell ⟨B, (n + 1) * 6 + 3, none⟩ (.int .u32 (y + 1 : Nat))).alloc (Obj.cells #[.pointer (some ⟨kb (n + 1), 0, none⟩), vl (n + 1)] 28)).drew = w2 at HO2 HM2 HE0 ⊢
  have HK2 : Hid (Keyed S B (n + 2) kb hs w2) := fun q hq => by
    obtain ⟨k1, k2, k3, k4⟩ := HK.out q hq
    exact ⟨k1, k2, HO2.out.cell k3 (by rintro (e | e) <;> contradiction), k4⟩
  have HP2 : Hid (∀ q, q < n + 2 → Plain w2 (kb q)) := fun q hq => by
    obtain ⟨cs, t, hc⟩ := HP.out q hq
    obtain ⟨k1, k2, k3, k4⟩ := HK.out q hq
    exact ⟨cs, t, (HO2.out.block _ (World.block_lt_of_cell? w _ k3) (by rintro (e | e) <;> contradiction)).trans hc⟩
  generalize hE : w.heap.size = E at HE0 ⊢
  have hES : E ≠ S := by omega
  have hEB : E ≠ B := by omega
  clear HK HP c0 lS ck0 cv0 cy0 cyn lB fk fv fy hE
  have c0 := HM2.out.c0
  have c1 := HM2.out.c1
  have cE := HE0.out
  obtain ⟨_, _, ch, hs0, hs1⟩ := HK2.out (n + 1) (by omega)
  have hhm := HS.out (n + 1) (by omega)
  have lS := World.block_lt_of_cell? w2 _ c0
  have lE := World.block_lt_of_cell? w2 _ cE
  have lK := World.block_lt_of_cell? w2 _ ch
  have ha2 := HH.out (κ (n + 1))
  go_wp2_with (first | (go_at_call 9; refine (mask_any _ N _ hN (by omega) _).mono ?_; rintro e w1 ⟨rfl, rfl⟩))
  go_quiet (fail)
  go_wp2_with fail
  obtain ⟨e, he, hfull, hemp⟩ := HT.out.empty hnN (H (κ (n + 1))) ha2
  have HF : Hid (∀ t, t < e → sl ((H (κ (n + 1)) + t) % (2 * N)) ≠ 0) := hfull
  have HE : Hid (sl ((H (κ (n + 1)) + e) % (2 * N)) = 0) := hemp
  clear hfull hemp
  go_loopg [8, 9] e (fun k i d wr => ∃ t m, t + k = e ∧ i = .int .u64 ((H (κ (n + 1)) + t) % (2 * N) : Nat) ∧ d = .int .u64 (t : Nat) ∧ (∀ u, u < t → sl ((H (κ (n + 1)) + u) % (2 * N)) ≠ 0 ∧ u ≤ dst N ((H (κ (n + 1)) + u) % (2 * N)) (H (κ (sl ((H (κ (n + 1)) + u) % (2 * N)) - 1)))) ∧ (∀ u, u < t → κ (sl ((H (κ (n + 1)) + u) % (2 * N)) - 1) ≠ κ (n + 1)) ∧ wr = w1.drewN m)
  case atStart => exact ⟨0, nq, by omega, by rw [show (H (κ (n + 1)) + 0) % (2 * N) = H (κ (n + 1)) from Nat.mod_eq_of_lt ha2], rfl, fun u hu => absurd hu (by omega), fun u hu => absurd hu (by omega), rfl⟩
  case round =>
    obtain ⟨t, m, ht, rfl, rfl, hpass, hkeys, rfl⟩ := hrel
    have HPA : Hid (∀ u, u < t → sl ((H (κ (n + 1)) + u) % (2 * N)) ≠ 0 ∧ u ≤ dst N ((H (κ (n + 1)) + u) % (2 * N)) (H (κ (sl ((H (κ (n + 1)) + u) % (2 * N)) - 1)))) := hpass
    have HKE : Hid (∀ u, u < t → κ (sl ((H (κ (n + 1)) + u) % (2 * N)) - 1) ≠ κ (n + 1)) := hkeys
    have hj2 : (H (κ (n + 1)) + t) % (2 * N) < 2 * N := Nat.mod_lt _ (by omega)
    have HJ : Hid ((H (κ (n + 1)) + (t + 1)) % (2 * N) = ((H (κ (n + 1)) + t) % (2 * N) + 1) % (2 * N)) := by
      show (H (κ (n + 1)) + (t + 1)) % (2 * N) = _
      rw [← Nat.add_assoc, Nat.add_mod (H (κ (n + 1)) + t) 1, Nat.add_mod ((H (κ (n + 1)) + t) % (2 * N)) 1, Nat.mod_mod]
    obtain ⟨j, hj⟩ : ∃ j, (H (κ (n + 1)) + t) % (2 * N) = j := ⟨_, rfl⟩
    rw [hj] at hj2 HJ ⊢
    have HJ0 : Hid ((H (κ (n + 1)) + t) % (2 * N) = j) := hj
    clear hj hpass hkeys
    obtain ⟨e2, he2, hfull2, hemp2⟩ := HT.out.empty hnN j hj2
    have hrle := HT.out.rch_le (by omega)
    have cj := HM2.out.slot j hj2
    have htI : (t : Int) < 1024 := by omega
    -- what 'file' does here
    have HFile : Hid ((sl j = 0 ∨ dst N j (H (κ (sl j - 1))) < t) → ∀ m', Calls Yba.prog 11 #[.pointer (some ⟨S, 0, none⟩), .int .u64 j, .int .u64 t, .int .u32 (n + 1 : Nat)] (w1.drewN m') (Added S B N sh (n + 1) κ H kb vl w)) := by
      intro hstop m'
      have hsub : t < 2 * N := by omega
      obtain ⟨hab, hT2⟩ := HT.out.insert (by omega) j t e2 hsub HJ0.out.symm HPA.out HKE.out hstop he2 hfull2 hemp2
      refine (file_any S B N sh (n + 2) rch k1 kb vl (pvOf κ (n + 1)) (fun q => if q = n + 1 then y + 1 else kyOf κ (n + 1) q) sl hs (fun q => H (κ q)) j e2 (n + 1) t (w1.drewN m') (HM2.out.drewN m') (fun q hq => HK2.out q hq) HK1.out hN (by omega) hj2 (by omega) (fun j hj => Nat.le_trans (HT.out.sl_le j hj) (by omega)) hfull2 hemp2 hnN hsub (by omega) (fun q hq => HS.out q hq)).mono ?_
      rintro en w' ⟨rfl, hM', hO'⟩
      refine ⟨rfl, _, _, hM'.recast (fun q _ => (fields_new κ (n + 1) hab q).1) (fun q _ => ?_), hT2, (HO2.out.drewN m').trans hO'⟩
      have := (fields_new κ (n + 1) hab q).2
      rw [HY.out] at this
      exact this
    by_cases hx : sl j = 0
    · have hx2 := HFile.out (.inl hx)
      rw [hx] at cj
      clear HFile
      go_wp2_with (first | (go_at_call 10; refine (slot_any B N j hj2 hN _).mono ?_; rintro e w3 ⟨rfl, rfl⟩) | (go_at_call 8; refine (load_any B (sOff j) _ _ (by exact cj)).mono ?_; rintro e w3 ⟨rfl, rfl⟩) | (go_at_call 11; refine (hx2 m).mono ?_; rintro e w3 ⟨rfl, h3⟩))
      refine bodyPost_ret (results_none rfl _ _ _) rfl ?_
      exact ⟨rfl, h3⟩
    · have hsle := HT.out.sl_le j hj2
      obtain ⟨q, hq⟩ : ∃ q, sl j = q + 1 := ⟨sl j - 1, by omega⟩
      have hte : t ≠ e := fun e1 => hx (by rw [← HJ0.out, e1]; exact HE.out)
      have cq := HM2.out.key q (by omega)
      rw [if_pos (by omega)] at cq
      have hqI : (q : Int) < N := by omega
      have hqw : IntKind.u32.wrap (q : Int) = q := by rw [IntKind.wrap_u32]; omega
      rw [hq] at cj
      by_cases hkq : κ q = κ (n + 1)
      · have hkb := (HI.out q (by omega)).2 hkq
        have heql : ∀ m', (binOp .eql 26 (.pointer (some ⟨kb q, 0, none⟩)) (.pointer (some ⟨kb (n + 1), 0, none⟩))).run Yba.prog (w1.drewN m') = .ok (.bool true) (w1.drewN m') := fun m' => by
          have := eql_ptr (kb q) (kb (n + 1)) (w1.drewN m') (HP2.out q (by omega)) (HP2.out (n + 1) (by omega))
          rw [hkb, beq_self_eq_true] at this
          rw [hkb]
          exact this
        clear HFile
        have cp := HM2.out.prev (n + 1) hnN
        have cy := HM2.out.keys (n + 1) hnN
        rw [if_pos rfl] at cy
        have lB := World.block_lt_of_cell? w1 _ cy
        have fp := HM2.out.fr ((n + 1) * 6 + 2)
        have fy := HM2.out.fr ((n + 1) * 6 + 3)
        have fj := HM2.out.fr (sOff j)
        clear hkb
        go_wp2_with (first | (go_at_call 10; refine (slot_any B N j hj2 hN _).mono ?_; rintro e w3 ⟨rfl, rfl⟩) | (go_at_call 8; refine (load_any B (sOff j) _ _ (by exact cj)).mono ?_; rintro e w3 ⟨rfl, rfl⟩))
        go_quiet (fail)
        go_wp2_with (first | (go_at_call 10; refine (slot_any B N j hj2 hN _).mono ?_; rintro e w3 ⟨rfl, rfl⟩))
        have HM3 := ((HM2.out.drewN (m + nq)).setPrev (n + 1) (q + 1) hnN).setKeys (n + 1) y hnN
        have hlast : lastOf κ (κ (n + 1)) (n + 1) = q + 1 := by
          have := (HT.out.newest j hj2 hx).2
          rw [hq, Nat.add_sub_cancel, hkq] at this
          exact this.symm
        have hT2 := HT.out.replace (by omega) j hj2 hx (by rw [hq, Nat.add_sub_cancel]; exact hkq)
        refine (store_any B (sOff j) _ _ _ (by exact HM3.slot j hj2) (by exact HM3.fr _)).mono ?_
        rintro e w3 ⟨rfl, rfl⟩
        go_wp2_with fail
        refine bodyPost_ret (results_none rfl _ _ _) rfl ?_
        refine ⟨rfl, _, _, Mem.recast (HM3.setSlot j (n + 2) hj2) (fun x _ => (fields_old κ (n + 1) (q + 1) hlast (by omega) x).1) (fun x _ => ?_), hT2, (((HO2.out.drewN _).setCell _ (.inr rfl) _).setCell _ (.inr rfl) _).setCell _ (.inr rfl) _⟩
        have := (fields_old κ (n + 1) (q + 1) hlast (by omega) x).2
        rw [HY.out] at this
        exact this
      · have hkb : kb q ≠ kb (n + 1) := fun e1 => hkq ((HI.out q (by omega)).1 e1)
        have heql : ∀ m', (binOp .eql 26 (.pointer (some ⟨kb q, 0, none⟩)) (.pointer (some ⟨kb (n + 1), 0, none⟩))).run Yba.prog (w1.drewN m') = .ok (.bool false) (w1.drewN m') := fun m' => by
          have := eql_ptr (kb q) (kb (n + 1)) (w1.drewN m') (HP2.out q (by omega)) (HP2.out (n + 1) (by omega))
          rw [beq_eq_false_iff_ne.2 hkb] at this
          exact this
        obtain ⟨_, _, chq, hsq0, hsq1⟩ := HK2.out q (by omega)
        have hhq := HS.out q (by omega)
        have hbd := and_dst HK1.out hN (by omega) j (H (κ q))
        have hbn := and_next HK1.out hN j hj2
        have hdl := dst_lt N j (H (κ q)) (by omega)
        have HD : Hid (∃ D, dst N j (H (κ q)) = D) := ⟨_, rfl⟩
        clear hkb
        obtain ⟨D, hD⟩ := HD.out
        have HDe : Hid (dst N j (H (κ q)) = D) := hD
        rw [hD] at hbd hdl
        clear hD HD
        rcases Nat.lt_or_ge D t with hDt | hDt
        · have hDI : (D : Int) < t := by omega
          have hx2 := HFile.out (.inr (by rw [hq, Nat.add_sub_cancel, HDe.out]; exact hDt))
          clear HFile
          go_wp2_with (first | (go_at_call 10; refine (slot_any B N j hj2 hN _).mono ?_; rintro e w3 ⟨rfl, rfl⟩) | (go_at_call 8; refine (load_any B (sOff j) _ _ (by exact cj)).mono ?_; rintro e w3 ⟨rfl, rfl⟩))
          go_quiet (fail)
          go_wp2_with fail
          go_quiet (fail)
          go_wp2_with (go_at_call 11; refine (hx2 _).mono ?_; rintro e w3 ⟨rfl, h3⟩)
          refine bodyPost_ret (results_none rfl _ _ _) rfl ?_
          exact ⟨rfl, h3⟩
        · have hDI : ¬ ((D : Int) < t) := by omega
          clear HFile
          go_wp2_with (first | (go_at_call 10; refine (slot_any B N j hj2 hN _).mono ?_; rintro e w3 ⟨rfl, rfl⟩) | (go_at_call 8; refine (load_any B (sOff j) _ _ (by exact cj)).mono ?_; rintro e w3 ⟨rfl, rfl⟩))
          go_quiet (fail)
          go_wp2_with fail
          go_quiet (fail)
          go_wp2_with fail
          go_roundg (gk - 1)
          case measure => omega
          case rel =>
            refine ⟨t + 1, _, by omega, by rw [HJ.out]; simp, rfl, fun u hu => ?_, fun u hu => ?_, rfl⟩
            · by_cases e1 : u = t
              · rw [e1, HJ0.out, hq, Nat.add_sub_cancel, HDe.out]
                exact ⟨by omega, hDt⟩
              · exact HPA.out u (by omega)
            · by_cases e1 : u = t
              · rw [e1, HJ0.out, hq, Nat.add_sub_cancel]
                exact hkq
              · exact HKE.out u (by omega)

set_option maxRecDepth 1000000 in
set_option maxHeartbeats 2000000 in
theorem add_zero (S B N sh rch k1 : Nat) (κ H : Nat → Nat) (kb : Nat → Nat) (vl : Nat → Value) (sl : Nat → Nat) (hs : Nat → Int) (w : World) (v : Value) (hv : vl 0 = .iface 3 v)
    (hM : Mem S B N sh 0 rch kb vl (pvOf κ 0) (kyOf κ 0) sl w) (hK : Keyed S B 1 kb hs w) (hT : Tab N 0 κ H sl rch) (hk1 : 2 * N = 2 ^ k1) (hN : N ≤ 256) (hnN : 0 < N) (hH : ∀ a, H a < 2 * N)
    (hhm : ∀ q, q < 1 → hs q / 2 ^ min sh 64 = H (κ q)) :
    Calls Yba.prog 7 #[.pointer (some ⟨S, 0, none⟩), .int .u32 (0 : Nat), .agg #[.pointer (some ⟨kb 0, 0, none⟩), .iface 3 v]] w (Added S B N sh 0 κ H kb vl w) := by
  have c0 := hM.c0
  have hne1 : S ≠ B := hM.ne
  have hne2 : B ≠ S := fun e => hM.ne e.symm
  have lS := World.block_lt_of_cell? w _ c0
  have ck0 := hM.key 0 hnN
  have cv0 := hM.val 0 hnN
  have cy0 := hM.keys 0 hnN
  have lB := World.block_lt_of_cell? w _ ck0
  have fk := hM.fr (0 * 6)
  have fv := hM.fr (0 * 6 + 1)
  have fy := hM.fr (0 * 6 + 3)
  have hnI : (0 : Int) < N := by omega
  have HM : Hid (Mem S B N sh 0 rch kb vl (pvOf κ 0) (kyOf κ 0) sl w) := hM
  have HK : Hid (Keyed S B 1 kb hs w) := hK
  have HT : Hid (Tab N 0 κ H sl rch) := hT
  have HH : Hid (∀ a, H a < 2 * N) := hH
  have HS : Hid (∀ q, q < 1 → hs q / 2 ^ min sh 64 = H (κ q)) := hhm
  have HK1 : Hid (2 * N = 2 ^ k1) := hk1
  rw [if_neg (by omega)] at ck0 cv0
  clear hM hK hT hH hhm hk1
  go_enter Yba.func7, Yba.ntmps7
  go_wp2_with fail
  rw [← hv]
  have HO2 : Hid (Only w ((((w.setCell ⟨B, 0, none⟩ (.pointer (some ⟨kb 0, 0, none⟩))).setCell ⟨B, 1, none⟩ (vl 0)).setCell ⟨B, 3, none⟩ (.int .u32 1)).alloc (Obj.cells #[.pointer (some ⟨kb 0, 0, none⟩), vl 0] 28)) (fun k => k = S ∨ k = B)) :=
    ((((Only.refl _ _).setCell _ (.inr rfl) _).setCell _ (.inr rfl) _).setCell _ (.inr rfl) _).alloc _
  have HM1 := (HM.out.put hnN).setKeys 0 1 hnN
  simp only [Nat.zero_mul, Nat.zero_add] at HM1
  have HM2 : Hid (Mem S B N sh 1 rch kb vl (pvOf κ 0) (fun q => if q = 0 then 1 else kyOf κ 0 q) sl ((((w.setCell ⟨B, 0, none⟩ (.pointer (some ⟨kb 0, 0, none⟩))).setCell ⟨B, 1, none⟩ (vl 0)).setCell ⟨B, 3, none⟩ (.int .u32 1)).alloc (Obj.cells #[.pointer (some ⟨kb 0, 0, none⟩), vl 0] 28))) :=
    Mem.below HM1 (by omega) ((Below.refl _ _).alloc (Nat.le_refl _) _)
  clear HM1
  have HE0 : Hid (((((w.setCell ⟨B, 0, none⟩ (.pointer (some ⟨kb 0, 0, none⟩))).setCell ⟨B, 1, none⟩ (vl 0)).setCell ⟨B, 3, none⟩ (.int .u32 1)).alloc (Obj.cells #[.pointer (some ⟨kb 0, 0, none⟩), vl 0] 28)).cell? ⟨w.heap.size, 0, none⟩ = some (.pointer (some ⟨kb 0, 0, none⟩))) := by
    show _ = _
    have hsz : (((w.setCell ⟨B, 0, none⟩ (.pointer (some ⟨kb 0, 0, none⟩))).setCell ⟨B, 1, none⟩ (vl 0)).setCell ⟨B, 3, none⟩ (.int .u32 1)).heap.size = w.heap.size := by simp [World.setCell]
    rw [World.cell?_alloc_at _ _ _ _ hsz.symm]
    rfl
  generalize (((w.setCell ⟨B, 0, none⟩ (.pointer (some ⟨kb 0, 0, none⟩))).setCell ⟨B, 1, none⟩ (vl 0)).setCell ⟨B, 3, none⟩ (.int .u32 1)).alloc (Obj.cells #[.pointer (some ⟨kb 0, 0, none⟩), vl 0] 28) = w2 at HO2 HM2 HE0 ⊢
  have HK2 : Hid (Keyed S B 1 kb hs w2) := fun q hq => by
    obtain ⟨k1, k2, k3, k4⟩ := HK.out q hq
    exact ⟨k1, k2, HO2.out.cell k3 (by rintro (e | e) <;> contradiction), k4⟩
  generalize hE : w.heap.size = E at HE0 ⊢
  clear HK c0 lS ck0 cv0 cy0 lB fk fv fy hE
  have c0 := HM2.out.c0
  have c1 := HM2.out.c1
  have cE := HE0.out
  obtain ⟨_, _, ch, hs0, hs1⟩ := HK2.out 0 (by omega)
  have hhm := HS.out 0 (by omega)
  have lS := World.block_lt_of_cell? w2 _ c0
  have lE := World.block_lt_of_cell? w2 _ cE
  have lK := World.block_lt_of_cell? w2 _ ch
  have ha2 := HH.out (κ 0)
  refine (mask_any _ N _ hN (by omega) _).mono ?_
  rintro e w1 ⟨rfl, rfl⟩
  go_wp2_with fail
  go_quiet (fail)
  go_wp2_with fail
  go_loopg [8, 9] 0 (fun k i d wr => ∃ m, i = .int .u64 (H (κ 0) : Nat) ∧ d = .int .u64 (0 : Nat) ∧ wr = w1.drewN m)
  case atStart => exact ⟨nq, rfl, rfl, rfl⟩
  case round =>
    obtain ⟨m, rfl, rfl, rfl⟩ := hrel
    have hx : sl (H (κ 0)) = 0 := Nat.le_zero.1 (HT.out.sl_le _ ha2)
    have cj := HM2.out.slot (H (κ 0)) ha2
    rw [hx] at cj
    obtain ⟨e2, he2, hfull2, hemp2⟩ := HT.out.empty hnN (H (κ 0)) ha2
    have hrle := HT.out.rch_le (by omega)
    have hFile : ∀ m', Calls Yba.prog 11 #[.pointer (some ⟨S, 0, none⟩), .int .u64 (H (κ 0) : Nat), .int .u64 (0 : Nat), .int .u32 (0 : Nat)] (w1.drewN m') (Added S B N sh 0 κ H kb vl w) := by
      intro m'
      obtain ⟨hab, hT2⟩ := HT.out.insert (by omega) (H (κ 0)) 0 e2 (by omega) (by rw [Nat.add_zero, Nat.mod_eq_of_lt ha2]) (fun t ht => absurd ht (by omega)) (fun t ht => absurd ht (by omega)) (.inl hx) he2 hfull2 hemp2
      refine (file_any S B N sh 1 rch k1 kb vl (pvOf κ 0) (fun q => if q = 0 then 1 else kyOf κ 0 q) sl hs (fun q => H (κ q)) (H (κ 0)) e2 0 0 (w1.drewN m') (HM2.out.drewN m') (fun q hq => HK2.out q hq) HK1.out hN (by omega) ha2 (by omega) (fun j hj => Nat.le_trans (HT.out.sl_le j hj) (by omega)) hfull2 hemp2 hnN (by omega) (by omega) (fun q hq => HS.out q hq)).mono ?_
      rintro en w' ⟨rfl, hM', hO'⟩
      refine ⟨rfl, _, _, hM'.recast (fun q _ => (fields_new κ 0 hab q).1) (fun q _ => (fields_new κ 0 hab q).2), hT2, (HO2.out.drewN m').trans hO'⟩
    clear hfull2 hemp2
    go_wp2_with (first | (go_at_call 10; refine (slot_any B N _ ha2 hN _).mono ?_; rintro e w3 ⟨rfl, rfl⟩) | (go_at_call 8; refine (load_any B (sOff (H (κ 0))) _ _ (by exact cj)).mono ?_; rintro e w3 ⟨rfl, rfl⟩) | (go_at_call 11; refine (hFile m).mono ?_; rintro e w3 ⟨rfl, h3⟩))
    refine bodyPost_ret (results_none rfl _ _ _) rfl ?_
    exact ⟨rfl, h3⟩

/-- 'add' at the next place -/
theorem add_any (S B N sh n rch k1 : Nat) (κ H : Nat → Nat) (kb : Nat → Nat) (vl : Nat → Value) (sl : Nat → Nat) (hs : Nat → Int) (w : World) (v : Value) (hv : vl n = .iface 3 v)
    (hM : Mem S B N sh n rch kb vl (pvOf κ n) (kyOf κ n) sl w) (hK : Keyed S B (n + 1) kb hs w) (hT : Tab N n κ H sl rch) (hk1 : 2 * N = 2 ^ k1) (hN : N ≤ 256) (hnN : n < N) (hH : ∀ a, H a < 2 * N)
    (hhm : ∀ q, q < n + 1 → hs q / 2 ^ min sh 64 = H (κ q)) (hinj : ∀ q, q < n → (kb q = kb n ↔ κ q = κ n)) (hpl : ∀ q, q < n + 1 → Plain w (kb q)) :
    Calls Yba.prog 7 #[.pointer (some ⟨S, 0, none⟩), .int .u32 n, .agg #[.pointer (some ⟨kb n, 0, none⟩), .iface 3 v]] w (Added S B N sh n κ H kb vl w) := by
  cases n with
  | zero => exact add_zero S B N sh rch k1 κ H kb vl sl hs w v hv hM hK hT hk1 hN hnN hH hhm
  | succ n => exact add_more S B N sh n rch k1 κ H kb vl sl hs w v hv hM hK hT hk1 hN hnN hH hhm hinj hpl
end Go.Proofs.Ybulkdoqu
