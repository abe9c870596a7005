import Derived.Test.YbulkdoqgCheck
import Derived.BigQuiet
namespace Go.Proofs.Ybulkdoqg
open Go.RowKit
set_option linter.unusedSimpArgs false

set_option maxRecDepth 1000000 in
set_option maxHeartbeats 3200000 in
theorem walk_main (a0 : Int) (b off len1 cap1 : Nat) (z1 : List Int) (a2 : Int) (w : World) (h0 : 0 ≤ a0) (h0' : a0 < 256) (hlc : len1 ≤ cap1) (hzl : z1.length = cap1) (hbw : b < w.heap.size)
    (hcell : ∀ i, i < z1.length → w.cell? ⟨b, off + i, none⟩ = some (.int .i8 (z1.getD i 0))) (hz : ∀ j : Nat, -128 ≤ z1[j]?.getD 0 ∧ z1[j]?.getD 0 ≤ 127) (h2 : 0 ≤ a2) (h2' : a2 < 18446744073709551616) (hn0 : 0 < len1) (hn : len1 ≤ 4096) :
    Calls Yba.prog 3 #[.int .u8 a0, .slice (some ⟨b, off, none⟩) len1 cap1, .int .u64 a2] w fun e w' => e = .returned (.bool true) ∧ Below w.heap.size w w' := by
  have hne : ((len1 : Int) == 0) = false := beq_eq_false_iff_ne.2 (by omega)
  have hmk := run_make_row' (P := Yba.prog) 29 30 (.pointer none) 8 Yba.underlying29 Yba.info30 rfl .i64 .i64 len1 (by omega) (by omega)
  have HC : Hid (∀ i, i < z1.length → w.cell? ⟨b, off + i, none⟩ = some (.int .i8 (z1.getD i 0))) := hcell
  have HZ : Hid (∀ j : Nat, -128 ≤ z1[j]?.getD 0 ∧ z1[j]?.getD 0 ≤ 127) := hz
  clear hcell hz
  go_enter Yba.func3, Yba.ntmps3
  go_wp2
  clear hmk hne
  go_loopw [11] (fun i wr => ∃ (k : Nat) (Ob : Nat → Nat) (lvs : List Lv), k ≤ len1 ∧ i = .int .i64 k ∧ Laid w.heap.size (w.heap.size + 1) w.heap.size len1 (a0 % 3) (fun j => z1.getD j 0) w k Ob lvs wr) (fun i _ => len1 - (intOf i).toNat)
  case atStart => exact ⟨0, fun _ => 0, [], Nat.zero_le _, rfl, Laid.start _ _ _ _ (by unfold maxLen; omega)⟩
  case round =>
    obtain ⟨k, Ob, lvs, hk, rfl, hL⟩ := hrel
    have HL : Hid (Laid w.heap.size (w.heap.size + 1) w.heap.size len1 (a0 % 3) (fun j => z1.getD j 0) w k Ob lvs wr) := hL
    have cx : k < len1 → wr.cell? ⟨b, off + k, none⟩ = some (.int .i8 (z1.getD k 0)) := fun h => (hL.below.cell (by exact hbw)).trans (HC.out k (by omega))
    have zx := HZ.out k
    obtain ⟨xs, hown, hxs⟩ := hL.arr
    have hcO : k < len1 → ∃ u, wr.cell? ⟨w.heap.size + 1, k, none⟩ = some u := fun h => ⟨_, (hown.cellAt k (by omega)).trans (List.getElem?_eq_getElem (by have := hown.1; omega))⟩
    have hfO := hown.frozenAt k
    have hsz := hL.below.size
    clear hL hown hxs
    by_cases hlt : k < len1
    · have cx := cx hlt
      obtain ⟨u, cO⟩ := hcO hlt
      have lO := World.block_lt_of_cell? wr _ cO
      have lb : b < wr.heap.size := World.block_lt_of_cell? wr _ cx
      have hM := HL.out.made (by omega) hlt
      have hGd := HL.out.good
      have hLn := HL.out.len
      have hadd := add_any w.heap.size (w.heap.size + 1) w.heap.size wr.heap.size (a0 % 3) (z1.getD k 0) lvs _ hM.1 hM.2.1 (by omega) (fun i l hl => Nat.le_trans (hGd.ords_len i l hl) (by omega)) (hGd.mono _)
      rw [show z1.getD k 0 = z1[k]?.getD 0 from List.getD_eq_getElem?_getD] at hadd
      have HA : Hid (Calls Yba.prog 4 #[ptr w.heap.size, ptr wr.heap.size] (madeW (w.heap.size + 1) k (z1[k]?.getD 0) wr) (AddPost w.heap.size (w.heap.size + 1) w.heap.size wr.heap.size (a0 % 3) (z1[k]?.getD 0) lvs (madeW (w.heap.size + 1) k (z1[k]?.getD 0) wr))) := hadd
      clear hM hGd hLn hadd
      go_wp2_with fail
      refine HA.out.mono ?_
      intro e w2 hpost
      clear HA
      rw [show z1[k]?.getD 0 = z1.getD k 0 from List.getD_eq_getElem?_getD.symm] at hpost
      obtain ⟨rfl, Ob', lvs', hL'⟩ := HL.out.added (by omega) hlt hpost
      have HL' : Hid (Laid w.heap.size (w.heap.size + 1) w.heap.size len1 (a0 % 3) (fun j => z1.getD j 0) w (k + 1) Ob' lvs' w2) := hL'
      clear hL' hpost
      go_wp2
      go_roundw
      case rel => exact ⟨k + 1, Ob', lvs', by omega, by go_num, HL'.out⟩
      case measure => simp [intOf]; omega
    · obtain rfl : k = len1 := by omega
      obtain ⟨T, hTe, hT⟩ : ∃ T : Nat, a2 % (k : Int) = (T : Int) ∧ T < k := by
        have h3 := Int.emod_nonneg a2 (show (k : Int) ≠ 0 by omega)
        have h4 := Int.emod_lt_of_pos a2 (show (0 : Int) < (k : Int) by omega)
        exact ⟨(a2 % (k : Int)).toNat, by omega, by omega⟩
      clear hcO hfO cx zx
      obtain ⟨xs, hown, hxs⟩ := HL.out.arr
      have cT : wr.cell? ⟨w.heap.size + 1, T, none⟩ = some (ptr (Ob T)) := (hown.cellAt T (by omega)).trans (hxs T hT)
      obtain ⟨r, j, l, hl, hpl, hF, hj, hjo, hnj, hpb, hol⟩ := HL.out.rests hT
      have hrem := remove_any w.heap.size (w.heap.size + 1) w.heap.size (Ob T) r j (a0 % 3) (z1.getD T 0) lvs l wr HL.out.book (HL.out.ord T hT) (by have := HL.out.len; omega) (by omega) (HL.out.good.mono _) (fun r' h' => h'.unique hF) hl hjo hnj hpb
      have HR : Hid (Calls Yba.prog 5 #[ptr w.heap.size, ptr (Ob T)] wr (RemPost w.heap.size (w.heap.size + 1) w.heap.size r j (a0 % 3) lvs l wr)) := hrem
      have HF2 : Hid (lvs[r]? = some l ∧ l.price = z1.getD T 0 ∧ (rem (fun j => z1.getD j 0) (fun _ => true) k l.price)[j]? = some T) := ⟨hl, hpl, hj⟩
      clear hrem hl hpl hF hj hjo hnj hpb hol hown hxs
      go_wp2_with fail
      refine HR.out.mono ?_
      intro e w2 hpost
      obtain ⟨rfl, lvs', hL2⟩ := HL.out.removed HF2.out.1 HF2.out.2.1 HF2.out.2.2 (by omega) hpost
      clear hpost HR HL HF2 cT
      obtain ⟨v2, hB2⟩ := hL2.book
      have cS0 := (two_cells hB2.top).1
      have cT7 := (hL2.ord T hT).cell
      have cxT : w2.cell? ⟨b, off + T, none⟩ = some (.int .i8 (z1.getD T 0)) := (hL2.below.cell (by exact hbw)).trans (HC.out T (by omega))
      have zT := HZ.out T
      have hge2 := hL2.below.size
      have HL2 : Hid (Left w.heap.size (w.heap.size + 1) w.heap.size k (a0 % 3) (fun j => z1.getD j 0) w T Ob lvs' w2) := hL2
      have hi0 : (0 : Int) ≤ (T : Int) := by omega
      have hi1 : (T : Int) < (k : Int) := by omega
      rw [show z1.getD T 0 = z1[T]?.getD 0 from List.getD_eq_getElem?_getD] at cT7 cxT
      have hnn : ((a0 % 3) != (a0 % 3)) = false := by simp
      have hnm : ((z1[T]?.getD 0) != (z1[T]?.getD 0)) = false := by simp
      have hw8 : IntKind.i64.wrap (z1[T]?.getD 0) = z1[T]?.getD 0 := by rw [IntKind.wrap_i64]; omega
      clear hL2 hB2
      go_wp2
      go_quiet (fail)
      go_wp2
      have HL3 := HL2.out.of_below (below_drewN (Below.refl _ _) nq)
      have HLW : Hid (Left w.heap.size (w.heap.size + 1) w.heap.size k (a0 % 3) (fun j => z1.getD j 0) w T Ob lvs' (w2.drewN nq)) := HL3
      clear HL3 HL2 hnn hnm hw8 cS0 cT7 cxT hge2
      generalize w2.drewN nq = W at *
      have hgeW := HLW.out.below.size
      obtain ⟨i2, hi2, hz20, hz21, hz22⟩ := info_parts Yba.info2
      go_loopw [15, 16] (fun v i wr => ∃ (m : Nat) (L : List Int), m ≤ k ∧ i = .int .i64 m ∧ wr.ownsRow W.heap.size 2 1 v L.length (L.map (Value.int .i64)) ∧ Ded (fun j => z1.getD j 0) m L ∧ Below W.heap.size W wr) (fun _ i _ => k - (intOf i).toNat)
      case atStart => exact ⟨0, [], Nat.zero_le _, rfl, World.ownsRow_nil _ _ _ _, Ded.nil _, Below.refl _ _⟩
      case round =>
        obtain ⟨m, L, hm, rfl, hown, hD, hB⟩ := hrel
        obtain ⟨sa, sc, rfl, hcells⟩ := ints_own hown
        have HD : Hid (Ded (fun j => z1.getD j 0) m L) := hD
        have hLl := hD.len
        have HCL : Hid (∀ q, q < L.length → ∃ g, sa = some ⟨g, 0, none⟩ ∧ wr.cell? ⟨g, q, none⟩ = some (.int .i64 (L[q]?.getD 0)) ∧ wr.frozen? ⟨g, q, none⟩ = false) := hcells
        have HOW : Hid (wr.ownsRow W.heap.size 2 1 (.slice sa L.length sc) L.length (L.map (Value.int .i64))) := hown
        clear hD hcells hown
        by_cases hmk : m < k
        · have cx : wr.cell? ⟨b, off + m, none⟩ = some (.int .i8 (z1.getD m 0)) := ((HLW.out.below.trans (hB.mono hgeW)).cell (by exact hbw)).trans (HC.out m (by omega))
          rw [show z1.getD m 0 = z1[m]?.getD 0 from List.getD_eq_getElem?_getD] at cx
          have zx := HZ.out m
          go_wp2
          go_loopw [18, 19] (fun s i w4 => ∃ q : Nat, q ≤ L.length ∧ s = .bool false ∧ i = .int .i64 q ∧ (∀ j, j < q → L[j]?.getD 0 ≠ z1[m]?.getD 0) ∧ wr = w4) (fun _ i _ => L.length - (intOf i).toNat)
          case atStart => exact ⟨0, Nat.zero_le _, rfl, rfl, fun j hj => absurd hj (by omega), rfl⟩
          case round =>
            obtain ⟨q, hq, rfl, rfl, hno, rfl⟩ := hrel
            have HNO : Hid (∀ j, j < q → L[j]?.getD 0 ≠ z1[m]?.getD 0) := hno
            clear hno
            by_cases hql : q < L.length
            · obtain ⟨g, rfl, cq, _⟩ := HCL.out q hql
              obtain ⟨y, hy⟩ : ∃ y, y = L[q]?.getD 0 := ⟨_, rfl⟩
              have HY : Hid (y = L[q]?.getD 0) := hy
              rw [← hy] at cq
              clear hy
              by_cases heq : y = z1[m]?.getD 0
              · have hb : (y == z1[m]?.getD 0) = true := beq_iff_eq.2 heq
                have HE : Hid (y = z1[m]?.getD 0) := heq
                clear heq
                go_wp2
                go_roundw
                case rel =>
                  refine ⟨m + 1, L, by omega, by go_num, HOW.out, HD.out.hit ?_, hB⟩
                  show z1.getD m 0 ∈ L
                  rw [List.getD_eq_getElem?_getD, ← HE.out, HY.out, List.getElem?_eq_getElem hql]
                  exact List.getElem_mem hql
                case measure => simp [intOf]; omega
              · have hb : (y == z1[m]?.getD 0) = false := beq_eq_false_iff_ne.2 heq
                have HE : Hid (¬ y = z1[m]?.getD 0) := heq
                clear heq
                go_wp2
                go_roundw
                case rel =>
                  refine ⟨q + 1, by omega, rfl, by go_num, fun j hj => ?_, trivial⟩
                  by_cases c : j = q
                  · subst c; rw [← HY.out]; exact HE.out
                  · exact HNO.out j (by omega)
                case measure => simp [intOf]; omega
            · have hnot : z1[m]?.getD 0 ∉ L := fun hmem => by
                obtain ⟨j, hj, e⟩ := List.getElem_of_mem hmem
                exact HNO.out j (by omega) (by rw [List.getElem?_eq_getElem hj]; exact e)
              have HNT : Hid (z1[m]?.getD 0 ∉ L) := hnot
              have hown := HOW.out
              have lBw := hB.size
              clear hnot
              go_wp2_with (at_builtin; refine wpList_append_own _ rfl _ _ 48 rfl W.heap.size 2 i2 (.int .i64 0) 1 8 Yba.underlying48 hi2 hz20 hz21 hz22 rfl (by decide) (.slice sa L.length sc) L.length (L.map (Value.int .i64)) (by rfl) (hown.alloc _) ⟨wr.heap.size, 0, none⟩ 1 1 [.int .i64 (z1[m]?.getD 0)] rfl rfl (cell_one_new _ _ _) (by simp [Value.oneCell']) (by unfold maxLen; omega) (by omega) (by simp; omega) ?_; intro v' w5 hown5 hgr5 _)
              have hB5 : Below W.heap.size W w5 := (hB.alloc lBw _).grown hgr5 (by simp; omega) (fun j hj => (hown.lt j hj).1)
              have HO5 : Hid (w5.ownsRow W.heap.size 2 1 v' (L.length + 1) (L.map (Value.int .i64) ++ [.int .i64 (z1[m]?.getD 0)])) := hown5
              clear hown5 hgr5 hown
              go_roundw
              case rel =>
                refine ⟨m + 1, L ++ [z1.getD m 0], by omega, by go_num, ?_, HD.out.miss ?_, hB5⟩
                · rw [List.length_append, List.map_append, List.getD_eq_getElem?_getD]; exact HO5.out
                · show z1.getD m 0 ∉ L
                  rw [List.getD_eq_getElem?_getD]; exact HNT.out
              case measure => simp [intOf]; omega
        · obtain rfl : m = k := by omega
          have hLnd := HD.out.nodup
          have hown := HOW.out
          have HND : Hid L.Nodup := hLnd
          clear HCL hLnd
          have HST : Hid (Srt (a0 % 3) L L 1) := Srt.start _ _
          go_wp2
          go_loopw [20] (fun i w4 => ∃ (a : Nat) (M : List Int), 1 ≤ a ∧ a ≤ L.length + 1 ∧ i = .int .i64 a ∧ w4.ownsRow W.heap.size 2 1 (.slice sa L.length sc) L.length (M.map (Value.int .i64)) ∧ Srt (a0 % 3) L M a ∧ Below W.heap.size W w4) (fun i _ => L.length + 1 - (intOf i).toNat)
          case atStart => exact ⟨1, L, Nat.le_refl _, by omega, rfl, HOW.out, HST.out, hB⟩
          case round =>
            obtain ⟨a, M, ha1, ha2, rfl, hownM, hS, hB4⟩ := hrel
            have hML : M.length = L.length := hS.perm.length_eq
            have HSM : Hid (Srt (a0 % 3) L M a) := hS
            have HML : Hid (M.length = L.length) := hML
            have HOM : Hid (wr.ownsRow W.heap.size 2 1 (.slice sa L.length sc) L.length (M.map (Value.int .i64))) := hownM
            clear hownM hS hML
            by_cases hal : a < L.length
            · have hIns := HSM.out.begins (by rw [HML.out]; exact hal)
              have eM : M.take a ++ (M[a]'(by rw [HML.out]; exact hal)) :: ([] ++ M.drop (a + 1)) = M := by simp
              have HI : Hid (∃ (A Bq C : List Int) (x : Int), Ins (a0 % 3) L a a A Bq C x ∧ wr.ownsRow W.heap.size 2 1 (.slice sa L.length sc) L.length ((A ++ x :: (Bq ++ C)).map (Value.int .i64))) := ⟨_, _, _, _, hIns, by rw [eM]; exact HOM.out⟩
              clear hIns eM HSM HML HOM
              go_wp2
              go_loopw [21] (fun i w5 => ∃ (j : Nat) (A Bq C : List Int) (x : Int), i = .int .i64 j ∧ j ≤ a ∧ Ins (a0 % 3) L a j A Bq C x ∧ w5.ownsRow W.heap.size 2 1 (.slice sa L.length sc) L.length ((A ++ x :: (Bq ++ C)).map (Value.int .i64)) ∧ Below W.heap.size W w5) (fun i _ => (intOf i).toNat)
              case atStart =>
                obtain ⟨A, Bq, C, x, h5, h6⟩ := HI.out
                exact ⟨a, A, Bq, C, x, rfl, Nat.le_refl _, h5, h6, hB4⟩
              case round =>
                obtain ⟨j, A, Bq, C, x, rfl, hja, hIn, hown5, hB5⟩ := hrel
                clear HI hB4
                have HIN : Hid (Ins (a0 % 3) L a j A Bq C x) := hIn
                have hAl := hIn.alen
                have lal := hIn.len
                rcases List.eq_nil_or_concat A with rfl | ⟨A', y, hAe⟩
                · obtain rfl : j = 0 := by simpa using hAl.symm
                  have HO5 : Hid (wr.ownsRow W.heap.size 2 1 (.slice sa L.length sc) L.length (([] ++ x :: (Bq ++ C)).map (Value.int .i64))) := hown5
                  clear hIn hAl hown5
                  have hd : decide ((0 : Int) < ((0 : Nat) : Int)) = false := by simp
                  go_wp2_with fail
                  go_quiet (fail)
                  go_wp2
                  go_roundw
                  case rel =>
                    refine ⟨a + 1, [] ++ x :: (Bq ++ C), by omega, by omega, by go_num, ownsRow_drewN HO5.out _, HIN.out.close HND.out (fun A' y e => by simp at e), below_drewN hB5 _⟩
                  case measure => simp [intOf]; omega
                · rw [List.concat_eq_append] at hAe
                  subst hAe
                  obtain rfl : j = A'.length + 1 := by simpa using hAl.symm
                  obtain ⟨g, rfl⟩ : ∃ g, sa = some ⟨g, 0, none⟩ := by
                    rcases hown5.2 with ⟨h7, h8⟩ | ⟨g, _, _, h7, _⟩
                    · omega
                    · simp only [Value.slice.injEq] at h7; exact ⟨g, h7.1⟩
                  obtain ⟨cY, cX, fY, fX⟩ := ins_cells hown5
                  have HO5 : Hid (wr.ownsRow W.heap.size 2 1 (.slice (some ⟨g, 0, none⟩) L.length sc) L.length (((A' ++ [y]) ++ x :: (Bq ++ C)).map (Value.int .i64))) := hown5
                  have lg : W.heap.size ≤ g := by
                    obtain ⟨h7, _⟩ := ownsRow_tag hown5 rfl
                    exact h7
                  have hpl : A'.length < L.length := by omega
                  have hpl1 : A'.length + 1 < L.length := by omega
                  clear hIn hAl hown5
                  generalize hp : A'.length = p at *
                  have HP : Hid (A'.length = p) := hp
                  clear hp
                  have hd : decide ((0 : Int) < (p : Int) + 1) = true := decide_eq_true (by omega)
                  have hj0 : (0 : Int) ≤ (p : Int) := by omega
                  have hj1 : (p : Int) < (L.length : Int) := by omega
                  have hj2 : (p : Int) + 1 < (L.length : Int) := by omega
                  cases hwr : wrs (a0 % 3) x y with
                  | true =>
                    have HW : Hid (wrs (a0 % 3) x y = true) := hwr
                    go_wp2_with fail
                    go_quiet ((go_at_call 6; exact Calls.quiet_of_same (worse_any _ _ _ _)))
                    clear hwr hd
                    go_wp2
                    go_roundw
                    case rel =>
                      have hsw := ins_swap (ownsRow_drewN HO5.out nq)
                      rw [HP.out] at hsw
                      refine ⟨p, A', y :: Bq, C, x, by go_num, by omega, HIN.out.swap HW.out, ?_, ?_⟩
                      · exact hsw
                      · exact ((below_drewN hB5 nq).setCell lg _).setCell lg _
                    case measure => simp [intOf]
                  | false =>
                    have HW : Hid (wrs (a0 % 3) x y = false) := hwr
                    go_wp2_with fail
                    go_quiet ((go_at_call 6; exact Calls.quiet_of_same (worse_any _ _ _ _)))
                    clear hwr hd
                    go_wp2
                    go_roundw
                    case rel =>
                      refine ⟨a + 1, (A' ++ [y]) ++ x :: (Bq ++ C), by omega, by omega, by go_num, ownsRow_drewN HO5.out _, HIN.out.close HND.out (fun A2 y2 e => ?_), below_drewN hB5 _⟩
                      have e2 := List.append_inj' e rfl
                      have : y = y2 := by simpa using e2.2
                      rw [← this]; exact HW.out
                    case measure => simp [intOf]; omega
            · have hla : L.length ≤ a := by omega
              have HLA : Hid (L.length ≤ a) := hla
              have hid0 := idxOf_zero (fun j => z1.getD j 0) T m M
              have HI0 : Hid (idxOf (fun j => z1.getD j 0) T m M 0 = 0) := hid0
              clear hid0 hown HOW HST hB
              obtain ⟨i3, hi3, hz30, hz31, hz32⟩ := info_parts Yba.info30
              go_wp2
              go_loopw [23, 24] (fun vi vc w6 => ∃ c : Nat, c ≤ L.length ∧ vc = .int .i64 c ∧ vi = .int .i64 (idxOf (fun j => z1.getD j 0) T m M c) ∧ w6.ownsRow W.heap.size 2 1 (.slice sa L.length sc) L.length (M.map (Value.int .i64)) ∧ Below W.heap.size W w6) (fun _ vc _ => L.length - (intOf vc).toNat)
              case atStart => exact ⟨0, Nat.zero_le _, rfl, by rw [HI0.out]; rfl, HOM.out, hB4⟩
              case round =>
                obtain ⟨c, hc, rfl, rfl, hown6, hB6⟩ := hrel
                have hidl := idxOf_le (fun j => z1.getD j 0) T m M c
                rw [HML.out] at hidl
                generalize hix : idxOf (fun j => z1.getD j 0) T m M c = ix at *
                have HIX : Hid (idxOf (fun j => z1.getD j 0) T m M c = ix) := hix
                clear hix HI0 hB4 HOM
                by_cases hcl : c < L.length
                · have hcM : c < M.length := by rw [HML.out]; exact hcl
                  obtain ⟨p, hpe⟩ : ∃ p, M[c]? = some p := ⟨_, List.getElem?_eq_getElem hcM⟩
                  have HPE : Hid (M[c]? = some p) := hpe
                  obtain ⟨g, rfl⟩ : ∃ g, sa = some ⟨g, 0, none⟩ := by
                    rcases hown6.2 with ⟨h7, h8⟩ | ⟨g, _, _, h7, _⟩
                    · omega
                    · simp only [Value.slice.injEq] at h7; exact ⟨g, h7.1⟩
                  have cP : wr.cell? ⟨g, c, none⟩ = some (.int .i64 p) := by
                    rw [hown6.cellAt c (by omega), List.getElem?_map, hpe]; rfl
                  have HO6 : Hid (wr.ownsRow W.heap.size 2 1 (.slice (some ⟨g, 0, none⟩) L.length sc) L.length (M.map (Value.int .i64))) := hown6
                  clear hpe hown6 hcM
                  go_wp2
                  go_loopw [26, 27] (fun v i w7 => ∃ q : Nat, q ≤ m ∧ i = .int .i64 q ∧ w7.ownsRow W.heap.size 30 1 v ((rem (fun j => z1.getD j 0) (but T) q p).map Ob).length (((rem (fun j => z1.getD j 0) (but T) q p).map Ob).map ptr) ∧
                      w7.ownsRow W.heap.size 2 1 (.slice (some ⟨g, 0, none⟩) L.length sc) L.length (M.map (Value.int .i64)) ∧ Below W.heap.size W w7) (fun _ i _ => m - (intOf i).toNat)
                  case atStart => exact ⟨0, Nat.zero_le _, rfl, World.ownsRow_nil _ _ _ _, HO6.out, hB6⟩
                  case round =>
                    obtain ⟨q, hq, rfl, hwant, hps, hB7⟩ := hrel
                    clear HO6 hB6 cP
                    obtain ⟨sa2, sc2, rfl, hwc⟩ := ptrs_own hwant
                    have hwl : ((rem (fun j => z1.getD j 0) (but T) q p).map Ob).length ≤ q := by rw [List.length_map]; exact rem_len _ _ _ _
                    have hrs := rem_succ (fun j => z1.getD j 0) (but T) q p
                    generalize hR : (rem (fun j => z1.getD j 0) (but T) q p).map Ob = R at *
                    have HR : Hid ((rem (fun j => z1.getD j 0) (but T) q p).map Ob = R) := hR
                    have HRS : Hid (rem (fun j => z1.getD j 0) (but T) (q + 1) p = rem (fun j => z1.getD j 0) (but T) q p ++ if but T q && z1.getD q 0 == p then [q] else []) := hrs
                    have HWC : Hid (∀ q o, R[q]? = some o → ∃ g, sa2 = some ⟨g, 0, none⟩ ∧ wr.cell? ⟨g, q, none⟩ = some (ptr o)) := hwc
                    have HWA : Hid (wr.ownsRow W.heap.size 30 1 (.slice sa2 R.length sc2) R.length (R.map ptr)) := hwant
                    have HPS : Hid (wr.ownsRow W.heap.size 2 1 (.slice (some ⟨g, 0, none⟩) L.length sc) L.length (M.map (Value.int .i64))) := hps
                    clear hR hrs hwc hwant hps
                    by_cases hqm : q < m
                    · have cx : wr.cell? ⟨b, off + q, none⟩ = some (.int .i8 (z1.getD q 0)) := ((HLW.out.below.trans (hB7.mono hgeW)).cell (by exact hbw)).trans (HC.out q (by omega))
                      rw [show z1.getD q 0 = z1[q]?.getD 0 from List.getD_eq_getElem?_getD] at cx
                      have zx := HZ.out q
                      have cO := cell_below hB7 (HLW.out.ordcell hqm)
                      by_cases hqT : q = T
                      · have hgd : ((q : Int) != (T : Int)) = false := by rw [hqT]; simp
                        have HQT : Hid (q = T) := hqT
                        clear hqT
                        go_wp2
                        go_roundw
                        case rel =>
                          have e : (rem (fun j => z1.getD j 0) (but T) (q + 1) p).map Ob = R := by
                            rw [HRS.out, show but T q = false by rw [HQT.out]; simp [but]]
                            simpa using HR.out
                          exact ⟨q + 1, by omega, by go_num, by rw [e]; exact HWA.out, HPS.out, hB7⟩
                        case measure => simp [intOf]; omega
                      · have hgd : ((q : Int) != (T : Int)) = true := by rw [bne_iff_ne]; omega
                        have HQT : Hid (¬ q = T) := hqT
                        clear hqT
                        by_cases hpq : z1[q]?.getD 0 = p
                        · have hgp : (z1[q]?.getD 0 == p) = true := beq_iff_eq.2 hpq
                          have HPQ : Hid (z1[q]?.getD 0 = p) := hpq
                          have lB7 := hB7.size
                          have hwant := HWA.out
                          clear hpq
                          go_wp2_with (at_builtin; refine wpList_append_own _ rfl _ _ 29 rfl W.heap.size 30 i3 (.pointer none) 1 8 Yba.underlying29 hi3 hz30 hz31 hz32 rfl (by decide) (.slice sa2 R.length sc2) R.length (R.map ptr) (by rfl) (hwant.alloc _) ⟨wr.heap.size, 0, none⟩ 1 1 [ptr (Ob q)] rfl rfl (cell_one_new _ _ _) (by simp [Value.oneCell']) (by unfold maxLen; omega) (by omega) (by simp; omega) ?_; intro v' w8 hown8 hgr8 _)
                          have hB8 : Below W.heap.size W w8 := (hB7.alloc lB7 _).grown hgr8 (by simp; omega) (fun j hj => (hwant.lt j hj).1)
                          have hps8 := ints_kept HPS.out hwant hgr8
                          have HO8 : Hid (w8.ownsRow W.heap.size 30 1 v' (R.length + 1) (R.map ptr ++ [ptr (Ob q)])) := hown8
                          have HP8 : Hid (w8.ownsRow W.heap.size 2 1 (.slice (some ⟨g, 0, none⟩) L.length sc) L.length (M.map (Value.int .i64))) := hps8
                          clear hown8 hgr8 hwant hps8
                          go_roundw
                          case rel =>
                            have e : (rem (fun j => z1.getD j 0) (but T) (q + 1) p).map Ob = R ++ [Ob q] := by
                              rw [HRS.out, show but T q = true by simp [but]; exact HQT.out, List.getD_eq_getElem?_getD, HPQ.out, List.map_append, HR.out]
                              simp
                            exact ⟨q + 1, by omega, by go_num, by rw [e, List.length_append, List.map_append]; exact HO8.out, HP8.out, hB8⟩
                          case measure => simp [intOf]; omega
                        · have hgp : (z1[q]?.getD 0 == p) = false := beq_eq_false_iff_ne.2 hpq
                          have HPQ : Hid (¬ z1[q]?.getD 0 = p) := hpq
                          clear hpq
                          go_wp2
                          go_roundw
                          case rel =>
                            have e : (rem (fun j => z1.getD j 0) (but T) (q + 1) p).map Ob = R := by
                              rw [HRS.out, List.getD_eq_getElem?_getD, show (z1[q]?.getD 0 == p) = false from beq_eq_false_iff_ne.2 HPQ.out]
                              simpa using HR.out
                            exact ⟨q + 1, by omega, by go_num, by rw [e]; exact HWA.out, HPS.out, hB7⟩
                          case measure => simp [intOf]; omega
                    · obtain rfl : q = m := by omega
                      have hcM : c < M.length := by rw [HML.out]; exact hcl
                      have hMc : M[c] = p := by
                        have := HPE.out
                        rw [List.getElem?_eq_getElem hcM] at this
                        exact Option.some.inj this
                      have hsucc := idxOf_succ (fun j => z1.getD j 0) T q M c hcM
                      rw [hMc, HIX.out] at hsucc
                      by_cases hR0 : R = []
                      · have hlf : isLeft (fun j => z1.getD j 0) T q p = false := by
                          have h9 := HR.out
                          rw [hR0, List.map_eq_nil_iff] at h9
                          unfold isLeft; rw [h9]; rfl
                        rw [hlf] at hsucc
                        have HSU : Hid (idxOf (fun j => z1.getD j 0) T q M (c + 1) = ix) := hsucc.trans (by simp)
                        subst hR0
                        clear hsucc hlf hMc hcM
                        go_wp2
                        go_roundw
                        case rel => exact ⟨c + 1, by omega, by go_num, by rw [HSU.out], HPS.out, hB7⟩
                        case measure => simp [intOf]; omega
                      · have hlf : isLeft (fun j => z1.getD j 0) T q p = true := by
                          have h9 : rem (fun j => z1.getD j 0) (but T) q p ≠ [] := fun e => hR0 (by rw [← HR.out, e]; rfl)
                          unfold isLeft
                          cases h10 : rem (fun j => z1.getD j 0) (but T) q p with
                          | nil => exact absurd h10 h9
                          | cons => rfl
                        rw [hlf] at hsucc
                        have HSU : Hid (idxOf (fun j => z1.getD j 0) T q M (c + 1) = ix + 1) := hsucc.trans (by simp)
                        obtain ⟨l2, hl2, hp2, ho2⟩ := HLW.out.found HD.out HSM.out HLA.out hcM (by rw [hMc]; exact hlf)
                        rw [HIX.out] at hl2
                        rw [hMc] at hp2
                        rw [hMc, HR.out] at ho2
                        have hlc2 := (HLW.out.cells hl2).below hB7
                        have hixl : ix < lvs'.length := (List.getElem?_eq_some_iff.1 hl2).1
                        have hRp : 0 < R.length := List.length_pos_iff.2 hR0
                        obtain ⟨gt, capt, ct1, ct2⟩ := hlc2.top
                        have cpr := hlc2.price
                        have cqu := hlc2.queue
                        have cor := hlc2.ords
                        rw [hp2] at cpr
                        rw [ho2] at cqu cor
                        have HCO : Hid (∀ (q o : Nat), R[q]? = some o → wr.cell? ⟨l2.row, q, none⟩ = some (ptr o)) := cor
                        have hb0 : ((R.length : Int) == 0) = false := beq_eq_false_iff_ne.2 (by omega)
                        have hpp : (p != p) = false := by simp
                        have hRR : ((R.length : Int) != (R.length : Int)) = false := by simp
                        clear hsucc hlf hMc hcM hl2 hp2 ho2 hlc2 cor hR0
                        go_wp2
                        go_loopw [29] (fun i w8 => ∃ s : Nat, s ≤ R.length ∧ i = .int .i64 s ∧ ∃ nn, w8 = wr.drewN nn) (fun i _ => R.length - (intOf i).toNat)
                        case atStart => exact ⟨0, Nat.zero_le _, rfl, 0, rfl⟩
                        case round =>
                          obtain ⟨s, hs, rfl, nn, rfl⟩ := hrel
                          by_cases hsl : s < R.length
                          · obtain ⟨o, ho⟩ : ∃ o, R[s]? = some o := ⟨_, List.getElem?_eq_getElem hsl⟩
                            have c1 := HCO.out s o ho
                            obtain ⟨g9, rfl, c2⟩ := HWC.out s o ho
                            have hnq := neq_same o
                            have hs0 : (0 : Int) ≤ (s : Int) := by omega
                            have hs1 : (s : Int) < (R.length : Int) := by omega
                            clear ho
                            go_wp2
                            go_quiet (fail)
                            clear hnq
                            go_wp2
                            go_roundw
                            case rel => exact ⟨s + 1, by omega, by go_num, _, rfl⟩
                            case measure => simp [intOf]; omega
                          · go_wp2
                            go_roundw
                            case rel => exact ⟨c + 1, by omega, by go_num, by rw [HSU.out]; go_num, ownsRow_drewN HPS.out _, below_drewN hB7 _⟩
                            case measure => simp [intOf]; omega
                · have htot := HLW.out.total HD.out HSM.out HLA.out
                  rw [HML.out, show L.length = c by omega, HIX.out] at htot
                  obtain ⟨gt, capt, ct⟩ := HLW.out.topcell
                  have ct6 := cell_below hB6 ct
                  rw [← htot] at ct6
                  clear htot ct
                  go_wp2
                  go_ret
                  exact ⟨rfl, HLW.out.below.trans (hB6.mono hgeW)⟩
end Go.Proofs.Ybulkdoqg
