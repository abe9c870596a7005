/-
  'file' of the store: contract by memory and plain slots.
-/
import Derived.Test.YbulkdoquSlot
import Derived.Test.YbulkdoquRing
import Derived.Deep.RegionWith
namespace Go.Proofs.Ybulkdoqu
open Go.RowKit
set_option linter.unusedSimpArgs false

/-- the keys of the places that are written, in memory -/
def Keyed (S B n : Nat) (kb : Nat → Nat) (hs : Nat → Int) (w : World) : Prop :=
  ∀ q, q < n → kb q ≠ S ∧ kb q ≠ B ∧ w.cell? ⟨kb q, 1, none⟩ = some (.int .u64 (hs q)) ∧ 0 ≤ hs q ∧ hs q < 18446744073709551616

/-- '& m' of any number that came to 64 bits -/
theorem and_M {N k1 : Nat} (hk : 2 * N = 2 ^ k1) (hN : N ≤ 256) (x : Int) : bits .and .u64 (x % 18446744073709551616) ((N : Int) * 2 - 1) = x % ((2 * N : Nat) : Int) := by
  have hk9 : k1 ≤ 64 := by
    apply Nat.le_of_not_lt
    intro hlt
    have := Nat.pow_lt_pow_right (a := 2) (by decide) hlt
    have h64 : (2 : Nat) ^ 64 = 18446744073709551616 := by decide
    omega
  have e : ((N : Int) * 2 - 1) = 2 ^ k1 - 1 := by
    have : ((2 * N : Nat) : Int) = ((2 ^ k1 : Nat) : Int) := by rw [hk]
    rw [Int.natCast_pow] at this
    rw [← show ((2 : Nat) : Int) = (2 : Int) from rfl, ← this]
    omega
  rw [e, and_mask k1 hk9 _ (Int.emod_nonneg _ (by decide)) (Int.emod_lt_of_pos _ (by decide)), hk]
  rw [show ((2 ^ k1 : Nat) : Int) = (2 : Int) ^ k1 from by rw [Int.natCast_pow]; rfl]
  refine Int.emod_emod_of_dvd _ ?_
  exact ⟨2 ^ (64 - k1), by rw [← Int.pow_add, Nat.add_sub_cancel' hk9]; decide⟩

theorem and_dst {N k1 : Nat} (hk : 2 * N = 2 ^ k1) (hN : N ≤ 256) (h0 : 0 < N) (j h : Nat) : bits .and .u64 (IntKind.u64.wrap ((j : Int) - h)) ((N : Int) * 2 - 1) = ((dst N j h : Nat) : Int) := by
  rw [IntKind.wrap_u64, and_M hk hN, dst_int N j h h0]

theorem and_next {N k1 : Nat} (hk : 2 * N = 2 ^ k1) (hN : N ≤ 256) (j : Nat) (hj : j < 2 * N) : bits .and .u64 ((j : Int) + 1) ((N : Int) * 2 - 1) = (((j + 1) % (2 * N) : Nat) : Int) := by
  have := and_M hk hN ((j : Int) + 1)
  rw [show ((j : Int) + 1) % 18446744073709551616 = (j : Int) + 1 by omega] at this
  rw [this, Int.natCast_emod]
  rfl

theorem and_back {N k1 : Nat} (hk : 2 * N = 2 ^ k1) (hN : N ≤ 256) (j : Nat) (hj : j < 2 * N) : bits .and .u64 (IntKind.u64.wrap ((j : Int) - 1)) ((N : Int) * 2 - 1) = (((j + (2 * N - 1)) % (2 * N) : Nat) : Int) := by
  rw [IntKind.wrap_u64, and_M hk hN]
  rw [Int.natCast_emod, show ((j + (2 * N - 1) : Nat) : Int) = ((j : Int) - 1) + ((2 * N : Nat) : Int) by omega, Int.add_emod_right]

theorem Mem.congr {S B N sh n rch : Nat} {kb : Nat → Nat} {vl : Nat → Value} {pv ky sl sl' : Nat → Nat} {w : World} (h : Mem S B N sh n rch kb vl pv ky sl w) (he : ∀ x, x < 2 * N → sl x = sl' x) : Mem S B N sh n rch kb vl pv ky sl' w :=
  ⟨h.ne, h.c0, h.c1, h.c2, h.c3, h.f3, h.key, h.val, h.prev, h.keys, fun j hj => by rw [← he j hj]; exact h.slot j hj, h.fr⟩

set_option maxRecDepth 1000000 in
set_option maxHeartbeats 2000000 in
theorem file_any (S B N sh n rch k1 : Nat) (kb : Nat → Nat) (vl : Nat → Value) (pv ky sl : Nat → Nat) (hs : Nat → Int) (hm : Nat → Nat) (i e p : Nat) (d : Nat) (w : World)
    (hM : Mem S B N sh n rch kb vl pv ky sl w) (hK : Keyed S B n kb hs w) (hk1 : 2 * N = 2 ^ k1) (hN : N ≤ 256) (hnN : n ≤ N) (hi : i < 2 * N) (he : e < 2 * N) (hsl : ∀ j, j < 2 * N → sl j ≤ n)
    (hfull : ∀ t, t < e → sl ((i + t) % (2 * N)) ≠ 0) (hemp : sl ((i + e) % (2 * N)) = 0) (hp : p < N) (hd : d < 2 * N) (hrch : rch ≤ 1024) (hhm : ∀ q, q < n → hs q / 2 ^ min sh 64 = hm q) :
    Calls Yba.prog 11 #[.pointer (some ⟨S, 0, none⟩), .int .u64 i, .int .u64 d, .int .u32 p] w fun en w' => en = .returned (.tuple #[]) ∧ Mem S B N sh n (max rch (rOf N sl hm i d e)) kb vl pv ky (fun x => if x = i then p + 1 else slAt N i e sl 0 x) w' ∧ Only w w' (fun k => k = S ∨ k = B) := by
  have HM : Hid (Mem S B N sh n rch kb vl pv ky sl w) := hM
  have HK : Hid (Keyed S B n kb hs w) := hK
  have HF : Hid (∀ t, t < e → sl ((i + t) % (2 * N)) ≠ 0) := hfull
  have HSL : Hid (∀ j, j < 2 * N → sl j ≤ n) := hsl
  have HK1 : Hid (2 * N = 2 ^ k1) := hk1
  have c0 := hM.c0
  have c1 := hM.c1
  have ci := hM.slot i hi
  have lS := World.block_lt_of_cell? w _ c0
  have lB : B < w.heap.size := World.block_lt_of_cell? w _ ci
  clear hM hK hfull hsl hk1
  go_enter Yba.func11, Yba.ntmps11
  go_wp2_with (first | (go_at_call 9; refine (mask_any _ N _ hN (by omega) _).mono ?_; rintro e w1 ⟨rfl, rfl⟩) | (go_at_call 10; refine (slot_any B N i hi hN _).mono ?_; rintro e w1 ⟨rfl, rfl⟩) | (go_at_call 8; refine (load_any B (sOff i) _ _ ci).mono ?_; rintro e w1 ⟨rfl, rfl⟩))
  go_loopg [9, 10, 11] e (fun k r j x wr => ∃ t m, t + k = e ∧ r = .int .u64 (rOf N sl hm i d t : Nat) ∧ j = .int .u64 ((i + t) % (2 * N) : Nat) ∧ x = .int .u32 (sl ((i + t) % (2 * N)) : Nat) ∧ wr = w1.drewN m)
  case atStart => exact ⟨0, 0, by omega, by simp [rOf], by rw [Nat.add_zero, Nat.mod_eq_of_lt hi], by rw [Nat.add_zero, Nat.mod_eq_of_lt hi], rfl⟩
  case round =>
    obtain ⟨t, m, ht, rfl, rfl, rfl, rfl⟩ := hrel
    cases gk with
    | zero =>
      obtain rfl : t = e := by omega
      rw [hemp]
      generalize hj0 : (i + t) % (2 * N) = j0
      have HJ0 : Hid ((i + t) % (2 * N) = j0) := hj0
      have hj0' : j0 < 2 * N := by rw [← hj0]; exact Nat.mod_lt _ (by omega)
      clear hj0 hemp
      have c3 := HM.out.c3
      have f3 := HM.out.f3
      have hRle := rOf_le N sl hm i d (by omega) hd t
      generalize hRe : rOf N sl hm i d t = R at hRle ⊢
      rcases Nat.lt_or_ge rch R with hR | hR
      · have HRM : Hid (max rch (rOf N sl hm i d t) = R) := by show max rch (rOf N sl hm i d t) = R; omega
        clear hRe
        have hRI : ((rch : Int) < (R : Int)) := by omega
        have hRI2 : ((R : Int)) ≤ 4294967295 := by omega
        go_wp2_with (first | (go_at_call 8; refine (load_any S 3 rch _ (by exact c3)).mono ?_; rintro e w2 ⟨rfl, rfl⟩) | (go_at_call 12; refine (store_any S 3 _ _ _ (by exact c3) (by exact f3)).mono ?_; rintro e w2 ⟨rfl, rfl⟩))
        have HM2 : Hid (Mem S B N sh n R kb vl pv ky sl ((w1.drewN m).setCell ⟨S, 3, none⟩ (.int .u32 R))) := (HM.out.drewN m).setReach R
        have HO : Hid (Only w1 ((w1.drewN m).setCell ⟨S, 3, none⟩ (.int .u32 R)) (fun k => k = S ∨ k = B)) := ((Only.refl _ _).drewN m).setCell _ (.inl rfl) _
        generalize (w1.drewN m).setCell ⟨S, 3, none⟩ (.int .u32 R) = w2 at HM2 HO ⊢
        clear c0 c1 ci c3 f3 lS lB
        go_wp2_with fail
        go_loopg [10] t (fun k j wr => k ≤ t ∧ j = .int .u64 ((i + k) % (2 * N) : Nat) ∧ Mem S B N sh n R kb vl pv ky (slAt N i t sl k) wr ∧ Only w1 wr (fun k => k = S ∨ k = B))
        case atStart => exact ⟨Nat.le_refl _, by rw [HJ0.out], HM2.out.congr (fun x _ => (slAt_full N i t sl x).symm), HO.out⟩
        case round =>
          obtain ⟨hkt, rfl, hMk, hOk⟩ := hrel
          have HMk : Hid (Mem S B N sh n R kb vl pv ky (slAt N i t sl gk) wr) := hMk
          have HOk : Hid (Only w1 wr (fun k => k = S ∨ k = B)) := hOk
          have c0 := hMk.c0
          have lS := World.block_lt_of_cell? wr _ c0
          clear hMk hOk
          cases gk with
          | zero =>
            have ci := HMk.out.slot i hi
            have fi := HMk.out.fr (sOff i)
            rw [Nat.add_zero, Nat.mod_eq_of_lt hi]
            go_wp2_with (first | (go_at_call 10; refine (slot_any B N i hi hN _).mono ?_; rintro e w3 ⟨rfl, rfl⟩) | (go_at_call 12; refine (store_any B (sOff i) _ _ _ ci fi).mono ?_; rintro e w3 ⟨rfl, rfl⟩))
            refine bodyPost_end (results_none rfl _ _ _) rfl ?_
            refine ⟨rfl, ?_, HOk.out.setCell _ (.inr rfl) _⟩
            rw [HRM.out]
            exact HMk.out.setSlot i (p + 1) hi
          | succ k =>
            have hpk := back_pos N i k hi (by omega)
            have hj2 : (i + (k + 1)) % (2 * N) < 2 * N := Nat.mod_lt _ (by omega)
            have hb2 : (i + k) % (2 * N) < 2 * N := Nat.mod_lt _ (by omega)
            have hbk := and_back HK1.out hN _ hj2
            rw [hpk] at hbk
            have hne : (i + (k + 1)) % (2 * N) ≠ i := fun e1 => by
              have := dst_pos N i (k + 1) hi (by omega)
              rw [e1] at this
              rw [dst_eq _ _ _ hi hi, if_pos (Nat.le_refl _)] at this
              omega
            have HE : Hid (∀ x, x < 2 * N → (if x = (i + (k + 1)) % (2 * N) then slAt N i t sl (k + 1) ((i + k) % (2 * N)) else slAt N i t sl (k + 1) x) = slAt N i t sl k x) := fun x hx => by
              have h1 := congrFun (slAt_step N i t k sl hi hkt he) x
              exact h1.trans (slAt_next N i t k sl hi hkt he x hx)
            have cj := HMk.out.slot _ hj2
            have cb := HMk.out.slot _ hb2
            have fj := HMk.out.fr (sOff ((i + (k + 1)) % (2 * N)))
            have HSet := HMk.out.setSlot ((i + (k + 1)) % (2 * N)) (slAt N i t sl (k + 1) ((i + k) % (2 * N))) hj2
            have HSet2 : Hid (Mem S B N sh n R kb vl pv ky (slAt N i t sl k) (wr.setCell ⟨B, sOff ((i + (k + 1)) % (2 * N)), none⟩ (.int .u32 (slAt N i t sl (k + 1) ((i + k) % (2 * N)) : Nat)))) := HSet.congr HE.out
            clear HSet HE hpk
            generalize slAt N i t sl (k + 1) ((i + k) % (2 * N)) = v at *
            generalize slAt N i t sl (k + 1) ((i + (k + 1)) % (2 * N)) = u at *
            generalize hj' : (i + (k + 1)) % (2 * N) = j at *
            generalize hb' : (i + k) % (2 * N) = jb at *
            have HJB : Hid ((i + k) % (2 * N) = jb) := hb'
            clear hb' hj'
            have hneI : ((j : Int) != (i : Int)) = true := by simp; omega
            have hneJ : ¬ ((j : Int) = (i : Int)) := by omega
            have lB : B < wr.heap.size := World.block_lt_of_cell? wr _ cj
            go_wp2_with fail
            go_region_with (first | (go_at_call_of 10 (Value.int IntKind.u64 (j : Int)); refine (slot_any B N j hj2 hN _).mono ?_; rintro e w3 ⟨rfl, rfl⟩) | (go_at_call_of 10 (Value.int IntKind.u64 (jb : Int)); refine (slot_any B N jb hb2 hN _).mono ?_; rintro e w3 ⟨rfl, rfl⟩) | (go_at_call 8; refine (load_any B (sOff jb) v _ (by exact cb)).mono ?_; rintro e w3 ⟨rfl, rfl⟩) | (go_at_call 12; refine (store_any B (sOff j) _ _ _ (by exact cj) (by exact fj)).mono ?_; rintro e w3 ⟨rfl, rfl⟩))
            all_goals
              go_wp2_with fail
              go_roundg k
              case measure => omega
              case rel => exact ⟨by omega, by rw [HJB.out], HSet2.out.drewN 1, (HOk.out.setCell _ (.inr rfl) _).drew⟩
      · have HRM : Hid (max rch (rOf N sl hm i d t) = rch) := by show max rch (rOf N sl hm i d t) = rch; omega
        clear hRe
        have hRI : ¬ ((rch : Int) < (R : Int)) := by omega
        have hRI2 : ((R : Int)) ≤ 4294967295 := by omega
        go_wp2_with (first | (go_at_call 8; refine (load_any S 3 rch _ (by exact c3)).mono ?_; rintro e w2 ⟨rfl, rfl⟩) | (go_at_call 12; refine (store_any S 3 _ _ _ (by exact c3) (by exact f3)).mono ?_; rintro e w2 ⟨rfl, rfl⟩))
        have HM2 : Hid (Mem S B N sh n rch kb vl pv ky sl (w1.drewN m)) := HM.out.drewN m
        have HO : Hid (Only w1 (w1.drewN m) (fun k => k = S ∨ k = B)) := (Only.refl _ _).drewN m
        generalize w1.drewN m = w2 at HM2 HO ⊢
        clear c0 c1 ci c3 f3 lS lB
        go_wp2_with fail
        rw [show decide (rch < R) = false from decide_eq_false (by omega)]
        go_loopg [10] t (fun k j wr => k ≤ t ∧ j = .int .u64 ((i + k) % (2 * N) : Nat) ∧ Mem S B N sh n rch kb vl pv ky (slAt N i t sl k) wr ∧ Only w1 wr (fun k => k = S ∨ k = B))
        case atStart => exact ⟨Nat.le_refl _, by rw [HJ0.out], HM2.out.congr (fun x _ => (slAt_full N i t sl x).symm), HO.out⟩
        case round =>
          obtain ⟨hkt, rfl, hMk, hOk⟩ := hrel
          have HMk : Hid (Mem S B N sh n rch kb vl pv ky (slAt N i t sl gk) wr) := hMk
          have HOk : Hid (Only w1 wr (fun k => k = S ∨ k = B)) := hOk
          have c0 := hMk.c0
          have lS := World.block_lt_of_cell? wr _ c0
          clear hMk hOk
          cases gk with
          | zero =>
            have ci := HMk.out.slot i hi
            have fi := HMk.out.fr (sOff i)
            rw [Nat.add_zero, Nat.mod_eq_of_lt hi]
            go_wp2_with (first | (go_at_call 10; refine (slot_any B N i hi hN _).mono ?_; rintro e w3 ⟨rfl, rfl⟩) | (go_at_call 12; refine (store_any B (sOff i) _ _ _ ci fi).mono ?_; rintro e w3 ⟨rfl, rfl⟩))
            refine bodyPost_end (results_none rfl _ _ _) rfl ?_
            refine ⟨rfl, ?_, HOk.out.setCell _ (.inr rfl) _⟩
            rw [HRM.out]
            exact HMk.out.setSlot i (p + 1) hi
          | succ k =>
            have hpk := back_pos N i k hi (by omega)
            have hj2 : (i + (k + 1)) % (2 * N) < 2 * N := Nat.mod_lt _ (by omega)
            have hb2 : (i + k) % (2 * N) < 2 * N := Nat.mod_lt _ (by omega)
            have hbk := and_back HK1.out hN _ hj2
            rw [hpk] at hbk
            have hne : (i + (k + 1)) % (2 * N) ≠ i := fun e1 => by
              have := dst_pos N i (k + 1) hi (by omega)
              rw [e1] at this
              rw [dst_eq _ _ _ hi hi, if_pos (Nat.le_refl _)] at this
              omega
            have HE : Hid (∀ x, x < 2 * N → (if x = (i + (k + 1)) % (2 * N) then slAt N i t sl (k + 1) ((i + k) % (2 * N)) else slAt N i t sl (k + 1) x) = slAt N i t sl k x) := fun x hx => by
              have h1 := congrFun (slAt_step N i t k sl hi hkt he) x
              exact h1.trans (slAt_next N i t k sl hi hkt he x hx)
            have cj := HMk.out.slot _ hj2
            have cb := HMk.out.slot _ hb2
            have fj := HMk.out.fr (sOff ((i + (k + 1)) % (2 * N)))
            have HSet := HMk.out.setSlot ((i + (k + 1)) % (2 * N)) (slAt N i t sl (k + 1) ((i + k) % (2 * N))) hj2
            have HSet2 : Hid (Mem S B N sh n rch kb vl pv ky (slAt N i t sl k) (wr.setCell ⟨B, sOff ((i + (k + 1)) % (2 * N)), none⟩ (.int .u32 (slAt N i t sl (k + 1) ((i + k) % (2 * N)) : Nat)))) := HSet.congr HE.out
            clear HSet HE hpk
            generalize slAt N i t sl (k + 1) ((i + k) % (2 * N)) = v at *
            generalize slAt N i t sl (k + 1) ((i + (k + 1)) % (2 * N)) = u at *
            generalize hj' : (i + (k + 1)) % (2 * N) = j at *
            generalize hb' : (i + k) % (2 * N) = jb at *
            have HJB : Hid ((i + k) % (2 * N) = jb) := hb'
            clear hb' hj'
            have hneI : ((j : Int) != (i : Int)) = true := by simp; omega
            have hneJ : ¬ ((j : Int) = (i : Int)) := by omega
            have lB : B < wr.heap.size := World.block_lt_of_cell? wr _ cj
            go_wp2_with fail
            go_region_with (first | (go_at_call_of 10 (Value.int IntKind.u64 (j : Int)); refine (slot_any B N j hj2 hN _).mono ?_; rintro e w3 ⟨rfl, rfl⟩) | (go_at_call_of 10 (Value.int IntKind.u64 (jb : Int)); refine (slot_any B N jb hb2 hN _).mono ?_; rintro e w3 ⟨rfl, rfl⟩) | (go_at_call 8; refine (load_any B (sOff jb) v _ (by exact cb)).mono ?_; rintro e w3 ⟨rfl, rfl⟩) | (go_at_call 12; refine (store_any B (sOff j) _ _ _ (by exact cj) (by exact fj)).mono ?_; rintro e w3 ⟨rfl, rfl⟩))
            all_goals
              go_wp2_with fail
              go_roundg k
              case measure => omega
              case rel => exact ⟨by omega, by rw [HJB.out], HSet2.out.drewN 1, (HOk.out.setCell _ (.inr rfl) _).drew⟩
    | succ k =>
      have hx0 : sl ((i + t) % (2 * N)) ≠ 0 := HF.out t (by omega)
      have hj2 : (i + t) % (2 * N) < 2 * N := Nat.mod_lt _ (by omega)
      have hxn := HSL.out _ hj2
      obtain ⟨q, hq⟩ : ∃ q, sl ((i + t) % (2 * N)) = q + 1 := ⟨_, (Nat.succ_pred_eq_of_ne_zero hx0).symm⟩
      have HR : Hid (rOf N sl hm i d (t + 1) = max (rOf N sl hm i d t) (dst N ((i + t) % (2 * N)) (hm q) + 2)) := by
        show rOf N sl hm i d (t + 1) = _
        simp only [rOf, hq, Nat.add_sub_cancel]
      have HJ : Hid ((i + (t + 1)) % (2 * N) = ((i + t) % (2 * N) + 1) % (2 * N)) := by
        show (i + (t + 1)) % (2 * N) = _
        rw [← Nat.add_assoc, Nat.add_mod (i + t) 1, Nat.add_mod ((i + t) % (2 * N)) 1, Nat.mod_mod]
      have HJ1 := HJ.out
      have cq := HM.out.key q (by omega)
      rw [if_pos (by omega)] at cq
      obtain ⟨_, _, ch, hs0, hs1⟩ := HK.out q (by omega)
      have hh := hhm q (by omega)
      have hbd := and_dst HK1.out hN (by omega) ((i + t) % (2 * N)) (hm q)
      have hbn := and_next HK1.out hN ((i + t) % (2 * N)) hj2
      have hdl := dst_lt N ((i + t) % (2 * N)) (hm q) (by omega)
      have hqn : q < n := by omega
      have hqw : IntKind.u32.wrap (q : Int) = q := by rw [IntKind.wrap_u32]; omega
      have hqI : (q : Int) < N := by omega
      have lK := World.block_lt_of_cell? w1 _ ch
      rw [hq]
      clear hq hx0
      generalize (i + t) % (2 * N) = j at *
      generalize rOf N sl hm i d t = R at *
      generalize dst N j (hm q) = D at *
      have hD : (D : Int) < 2 * N := by omega
      rcases Nat.lt_or_ge R (D + 2) with hR | hR
      · have hRI : (R : Int) < D + 2 := by omega
        have hRm : max R (D + 2) = D + 2 := by omega
        rw [hRm] at HR
        clear hRm
        go_wp2_with fail
        go_quiet (fail)
        have c0' : (w1.drewN (m + nq)).cell? { block := S, off := 0 } = some (Value.slice (some { block := B, off := 0 }) N N) := c0
        have hjn : (j + 1) % (2 * N) < 2 * N := Nat.mod_lt _ (by omega)
        have cj := HM.out.slot _ hjn
        generalize (j + 1) % (2 * N) = j' at *
        go_wp2_with (first | (go_at_call 10; refine (slot_any B N j' hjn hN _).mono ?_; rintro e w2 ⟨rfl, rfl⟩) | (go_at_call 8; refine (load_any B (sOff j') (sl j') _ (by exact cj)).mono ?_; rintro e w2 ⟨rfl, rfl⟩))
        go_roundg k
        case measure => omega
        case rel => exact ⟨t + 1, m + nq, by omega, by rw [HR.out]; rfl, by rw [HJ1], by rw [HJ1], rfl⟩
      have hRI : ¬ (R : Int) < D + 2 := by omega
      have hRm : max R (D + 2) = R := by omega
      rw [hRm] at HR
      clear hRm
      go_wp2_with fail
      go_quiet (fail)
      have c0' : (w1.drewN (m + nq)).cell? { block := S, off := 0 } = some (Value.slice (some { block := B, off := 0 }) N N) := c0
      have hjn : (j + 1) % (2 * N) < 2 * N := Nat.mod_lt _ (by omega)
      have cj := HM.out.slot _ hjn
      generalize (j + 1) % (2 * N) = j' at *
      go_wp2_with (first | (go_at_call 10; refine (slot_any B N j' hjn hN _).mono ?_; rintro e w2 ⟨rfl, rfl⟩) | (go_at_call 8; refine (load_any B (sOff j') (sl j') _ (by exact cj)).mono ?_; rintro e w2 ⟨rfl, rfl⟩))
      go_roundg k
      case measure => omega
      case rel => exact ⟨t + 1, m + nq, by omega, by rw [HR.out], by rw [HJ1], by rw [HJ1], rfl⟩
end Go.Proofs.Ybulkdoqu
