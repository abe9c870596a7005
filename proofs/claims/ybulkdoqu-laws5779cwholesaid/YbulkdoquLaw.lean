import Derived.Test.YbulkdoquMid
import Derived.Lib.IfaceNeq
import Derived.Deep.RegionLaw
import Derived.Deep.DeepAppendRoom
import Derived.Deep.RegionHeld3
import Derived.OpenShut
import Derived.Deep.DeepCutAuto
import Derived.Deep.CutBlock
namespace Go.Proofs.Ybulkdoqu
open Go.RowKit Go.ChangeShapes
set_option linter.unusedSimpArgs false
theorem mix_any (h : Int) (w : World) : Calls Yba.prog 6 #[.int .u64 h] w fun e w' => e = .returned (.int .u64 (h * 11400714819323198485 % 18446744073709551616)) ∧ w' = w := by
  go_enter Yba.func6, Yba.ntmps6
  go_wp2
  go_ret
  exact ⟨by first | rfl | simp [IntKind.wrap_u64], rfl⟩

theorem ptrs_own {w : World} {B : Nat} {v : Value} {L : List Nat} (h : w.ownsRow B 26 1 v L.length (L.map ptr)) :
    ∃ sa sc, v = .slice sa L.length sc ∧ ∀ q, q < L.length → ∃ g, sa = some ⟨g, 0, none⟩ ∧ B ≤ g ∧ g < w.heap.size ∧ w.cell? ⟨g, q, none⟩ = some (ptr (L[q]?.getD 0)) ∧ w.frozen? ⟨g, q, none⟩ = false := by
  have ho := h
  rcases h.2 with ⟨rfl, e⟩ | ⟨g, cap, cur, rfl, hg, _⟩
  · rw [e]; exact ⟨_, _, rfl, fun q hq => absurd hq (by omega)⟩
  · refine ⟨_, _, rfl, fun q hq => ⟨g, rfl, hg, (ho.lt g rfl).2, ?_, ho.frozenAt q⟩⟩
    rw [ho.cellAt q (by omega)]
    simp [hq]

theorem Only.of_grown {a b : World} {row : Option Nat} (h : a.grownBy b row) : Only a b (fun k => row = some k) := ⟨h.os, h.tape, h.output, h.size, fun k hk hn => h.block k hk (fun e => hn e.symm)⟩

/-- the cells of a key of the pool -/
def keyCells (h : Int) : Array Value := #[.string ByteArray.empty, .int .u64 h, .nilFunc]

theorem keyCells_eq (h : Int) : keyCells h = #[.string ByteArray.empty, .int .u64 h, .nilFunc] := rfl

/-- one more key of the pool -/
theorem Pool.grow {base n g : Nat} {Ks : List Nat} {hh : Nat → Int} {w w5 : World} {t : Obj} (h : Pool base Ks.length (fun i => Ks.getD i 0) hh w) (hb : base ≤ w.heap.size) (hg : g < base) (_hn : n = Ks.length)
    (ho : Only ((w.alloc (.cells (keyCells (hh Ks.length)) 52)).alloc t) w5 (fun k => some g = some k)) : Pool base (Ks ++ [w.heap.size]).length (fun i => (Ks ++ [w.heap.size]).getD i 0) hh w5 := by
  have h2 : Only w w5 (fun k => some g = some k) := (((Only.refl w _).alloc _).alloc _).trans ho
  have hold : ∀ i, i < Ks.length → (Ks ++ [w.heap.size]).getD i 0 = Ks.getD i 0 := fun i hi => by
    rw [List.getD_eq_getElem?_getD, List.getD_eq_getElem?_getD, List.getElem?_append_left hi]
  have hnew : (Ks ++ [w.heap.size]).getD Ks.length 0 = w.heap.size := by
    rw [List.getD_eq_getElem?_getD, List.getElem?_append_right (Nat.le_refl _)]; simp
  have hge : ∀ i, i < Ks.length → base ≤ Ks.getD i 0 := fun i hi => h.ge i hi
  have hlt : ∀ i, i < Ks.length → Ks.getD i 0 < w.heap.size := fun i hi => (h.plain i hi).lt
  have hblk : w5.heap[w.heap.size]? = some (.cells (keyCells (hh Ks.length)) 52 (0, 0)) := by
    rw [ho.block w.heap.size (by simp; omega) (fun e => by injection e with e2; omega), Below.heap_alloc _ _ _ (by simp), heap_alloc_new]
  have hc : w5.cell? ⟨w.heap.size, 1, none⟩ = some (.int .u64 (hh Ks.length)) := by
    unfold World.cell?
    rw [hblk]
    rfl
  have hlen : (Ks ++ [w.heap.size]).length = Ks.length + 1 := by simp
  rw [hlen]
  refine ⟨fun i hi => ?_, fun i hi => ?_, fun i j hi hj he => ?_, fun i hi => ?_⟩
  · show Plain w5 ((Ks ++ [w.heap.size]).getD i 0)
    by_cases e : i = Ks.length
    · rw [e, hnew]; exact ⟨_, _, hblk⟩
    · have hi2 : i < Ks.length := by omega
      rw [hold i hi2]
      exact (h.plain i hi2).only h2 (fun e2 => by injection e2 with e3; have := hge i hi2; omega)
  · show w5.cell? ⟨(Ks ++ [w.heap.size]).getD i 0, 1, none⟩ = _
    by_cases e : i = Ks.length
    · rw [e, hnew]; exact hc
    · have hi2 : i < Ks.length := by omega
      rw [hold i hi2]
      exact h2.cell (h.hash i hi2) (fun e2 => by injection e2 with e3; have e4 : g = Ks.getD i 0 := e3; have := hge i hi2; omega)
  · have he : (Ks ++ [w.heap.size]).getD i 0 = (Ks ++ [w.heap.size]).getD j 0 := he
    by_cases e : i = Ks.length
    · by_cases e' : j = Ks.length
      · omega
      · have hj2 : j < Ks.length := by omega
        rw [e, hnew, hold j hj2] at he
        have := hlt j hj2
        omega
    · have hi2 : i < Ks.length := by omega
      by_cases e' : j = Ks.length
      · rw [e', hnew, hold i hi2] at he
        have := hlt i hi2
        omega
      · have hj2 : j < Ks.length := by omega
        rw [hold i hi2, hold j hj2] at he
        exact h.apart i j hi2 hj2 he
  · show base ≤ (Ks ++ [w.heap.size]).getD i 0
    by_cases e : i = Ks.length
    · rw [e, hnew]; exact hb
    · have hi2 : i < Ks.length := by omega
      rw [hold i hi2]; exact hge i hi2

theorem cellZ_all (q N : Nat) (h : q < N) (r : Nat) (hr : r < 6) : (madeCells cellZ (N * 6))[q * 6 + r]? = some (cellZ[r]!) := by
  have h1 : q * 6 + r < N * 6 := by omega
  have e : (q * 6 + r) % 6 = r := by omega
  have hs : cellZ.size = 6 := rfl
  simp [madeCells, h1, hs, e]

/-- a fresh store -/
theorem Mem.start (w : World) (N sh : Nat) (kb : Nat → Nat) (vl : Nat → Value) (κ : Nat → Nat) :
    Mem (w.heap.size + 1) w.heap.size N sh 0 0 kb vl (pvOf κ 0) (kyOf κ 0) (fun _ => 0) ((w.alloc (.cells (madeCells cellZ (N * 6)) 35)).alloc (.cells #[.slice (some ⟨w.heap.size, 0, none⟩) N N, .int .u8 sh, .int .u32 0, .int .u32 0] 38)) := by
  have hB : ∀ o, ((w.alloc (.cells (madeCells cellZ (N * 6)) 35)).alloc (.cells #[.slice (some ⟨w.heap.size, 0, none⟩) N N, .int .u8 sh, .int .u32 0, .int .u32 0] 38)).cell? ⟨w.heap.size, o, none⟩ = (madeCells cellZ (N * 6))[o]? := fun o => by
    rw [World.cell?_alloc_past _ _ _ (by simp), World.cell?_alloc_new]
  have hS : ∀ o, ((w.alloc (.cells (madeCells cellZ (N * 6)) 35)).alloc (.cells #[.slice (some ⟨w.heap.size, 0, none⟩) N N, .int .u8 sh, .int .u32 0, .int .u32 0] 38)).cell? ⟨w.heap.size + 1, o, none⟩ = #[Value.slice (some ⟨w.heap.size, 0, none⟩) N N, .int .u8 sh, .int .u32 0, .int .u32 0][o]? := fun o => by
    rw [World.cell?_alloc_at _ _ _ _ (by simp)]
  refine ⟨by omega, hS 0, hS 1, hS 2, hS 3, ?_, fun q hq => ?_, fun q hq => ?_, fun q hq => ?_, fun q hq => ?_, fun j hj => ?_, fun o => ?_⟩
  · rw [World.frozen?_alloc_at _ _ _ _ (by simp)]
  · rw [hB, show q * 6 = q * 6 + 0 from rfl, cellZ_all q N hq 0 (by omega)]; rfl
  · rw [hB, cellZ_all q N hq 1 (by omega)]; rfl
  · rw [hB, cellZ_all q N hq 2 (by omega)]; simp [pvOf, cellZ]
  · rw [hB, cellZ_all q N hq 3 (by omega)]; simp [kyOf, cellZ]
  · rw [hB]
    unfold sOff
    rw [show j / 2 * 6 + 4 + j % 2 = j / 2 * 6 + (4 + j % 2) by omega, cellZ_all (j / 2) N (by omega) (4 + j % 2) (by omega)]
    rcases Nat.mod_two_eq_zero_or_one j with e | e <;> rw [e] <;> rfl
  · rw [World.frozen?_alloc_past _ _ _ (by simp), World.frozen?_alloc_at _ _ _ _ rfl]

/-- a row of integers that came in -/
def InRow (k : IntKind) (w : World) (a : Option Addr) (b o n : Nat) (z : Nat → Int) : Prop :=
  (0 < n → a = some ⟨b, o, none⟩) ∧ ∀ i, i < n → w.cell? ⟨b, o + i, none⟩ = some (.int k (z i))

set_option maxRecDepth 1000000 in
set_option maxHeartbeats 4000000 in
theorem lawC_any (a0 : Int) (a1 : Option Addr) (b1 o1 len1 cap1 : Nat) (z1 : Nat → Int) (a2 : Option Addr) (b2 o2 len2 cap2 : Nat) (z2 : Nat → Int) (a3 : Option Addr) (b3 o3 len3 cap3 : Nat) (z3 : Nat → Int) (k N : Nat) (w : World)
   (hk : a0 % 9 = k) (hk8 : k ≤ 8) (hNk : N = 2 ^ k) (hw64 : wrap64 (2 ^ k) = (N : Int))
   (h1 : ¬ (1048576 : Int) < len1) (h2 : ¬ (1048576 : Int) < len2) (h3 : ¬ (1048576 : Int) < len3) (hka : 0 ≤ a0 ∧ a0 < 256)
   (hc1 : len1 ≤ cap1) (hr1 : InRow .u64 w a1 b1 o1 len1 z1) (hz1 : ∀ i, 0 ≤ z1 i ∧ z1 i < 18446744073709551616)
   (_hc2 : len2 ≤ cap2) (hr2 : InRow .u8 w a2 b2 o2 len2 z2) (hz2 : ∀ i, 0 ≤ z2 i ∧ z2 i < 256)
   (_hc3 : len3 ≤ cap3) (hr3 : InRow .i64 w a3 b3 o3 len3 z3) (hz3 : ∀ i, -9223372036854775808 ≤ z3 i ∧ z3 i ≤ 9223372036854775807) :
    Calls Yba.prog 4 #[.int .u8 a0, .slice a1 len1 cap1, .slice a2 len2 cap2, .slice a3 len3 cap3] w fun e w' => e = .returned (.bool true) ∧ Below w.heap.size w w' := by
  have HR1 : Hid (InRow .u64 w a1 b1 o1 len1 z1) := hr1
  have HR2 : Hid (InRow .u8 w a2 b2 o2 len2 z2) := hr2
  have HR3 : Hid (InRow .i64 w a3 b3 o3 len3 z3) := hr3
  have HZ1 : Hid (∀ i, 0 ≤ z1 i ∧ z1 i < 18446744073709551616) := hz1
  have HZ2 : Hid (∀ i, 0 ≤ z2 i ∧ z2 i < 256) := hz2
  have HZ3 : Hid (∀ i, -9223372036854775808 ≤ z3 i ∧ z3 i ≤ 9223372036854775807) := hz3
  have HNK : Hid (N = 2 ^ k) := hNk
  clear hr1 hr2 hr3 hz1 hz2 hz3 hNk
  go_enter Yba.func4, Yba.ntmps4
  go_upto_if 71 with fail
  rw [hw64]
  clear hw64
  go_cut [11] from 50 to 80 (fun s wc => ∃ (b o L c : Nat) (z : Nat → Int), s = .slice (some ⟨b, o, none⟩) L c ∧ 1 ≤ L ∧ L ≤ c ∧ L ≤ 1048576 ∧ (∀ i, i < L → wc.cell? ⟨b, o + i, none⟩ = some (.int .u64 (z i))) ∧ (∀ i, 0 ≤ z i ∧ z i < 18446744073709551616) ∧ Below w.heap.size w wc)
  case first =>
    rcases Nat.eq_zero_or_pos len1 with h0 | h0
    · subst h0
      go_wp2_with fail
      go_meet
      case rel =>
        refine ⟨w.heap.size, 0, 1, 1, fun _ => 0, rfl, Nat.le_refl _, Nat.le_refl _, by omega, fun i hi => ?_, fun _ => by show (0 : Int) ≤ 0 ∧ (0 : Int) < 18446744073709551616; decide, (Below.refl _ _).alloc (Nat.le_refl _) _⟩
        obtain rfl : i = 0 := by omega
        simp
    · have hne : ((len1 : Int) == 0) = false := beq_eq_false_iff_ne.2 (by omega)
      have hne' : ¬ len1 = 0 := by omega
      obtain rfl := HR1.out.1 h0
      go_wp2_with fail
      go_meet
      case rel =>
        exact ⟨b1, o1, len1, cap1, z1, rfl, h0, hc1, by omega, HR1.out.2, HZ1.out, Below.refl _ _⟩
  obtain ⟨b, o, L, c, z, rfl, hL1, hLc, hLm, hcell, hzb, hB⟩ := hcut
  have HCL : Hid (∀ i, i < L → wc.cell? ⟨b, o + i, none⟩ = some (.int .u64 (z i))) := hcell
  have HZB : Hid (∀ i, 0 ≤ z i ∧ z i < 18446744073709551616) := hzb
  have HB1 : Hid (Below w.heap.size w wc) := hB
  clear hcell hzb hB
  go_upto_if 75 with fail
  go_cut [11] from 50 to 80 (fun s wc' => ∃ (L' : Nat), s = .slice (some ⟨b, o, none⟩) L' c ∧ 1 ≤ L' ∧ L' ≤ L ∧ L' ≤ 16 ∧ wc' = wc)
  case first =>
    by_cases h16 : (16 : Int) < L
    · go_wp2_with fail
      go_meet
      case rel => exact ⟨16, rfl, by omega, by omega, Nat.le_refl _, rfl⟩
    · go_wp2_with fail
      go_meet
      case rel => exact ⟨L, rfl, hL1, Nat.le_refl _, by omega, rfl⟩
  obtain ⟨L', rfl, hL1', hLL, hL16, rfl⟩ := hcut
  have hmk := make_ptrs L' (by omega) wc
  go_upto_block 0 with fail
  have HZH : Hid (∀ i, i < L' → wc.cell? ⟨b, o + i, none⟩ = some (.int .u64 (z i))) := fun i hi => HCL.out i (by omega)
  go_cut [12, 13] from 81 to 96 (fun p i wc1 => ∃ (PB pc : Nat) (kk : Nat → Nat), p = .slice (some ⟨PB, 0, none⟩) L' pc ∧ Row wc1 PB (fun i => ptr (kk i)) L' ∧ Pool w.heap.size L' kk (fun i => z i * 11400714819323198485 % 18446744073709551616) wc1 ∧ w.heap.size ≤ PB ∧ (∀ i, i < L' → kk i ≠ PB) ∧ Below w.heap.size w wc1)
  case first =>
    have hsz := HB1.out.size
    have HB2 : Hid (Below w.heap.size w (wc.alloc (.cells (madeCells #[.pointer none] L') 26))) := HB1.out.alloc hsz _
    have HOW : Hid ((wc.alloc (.cells (madeCells #[.pointer none] L') 26)).ownsRow w.heap.size 26 1 (.slice (some ⟨wc.heap.size, 0, none⟩) 0 L') 0 []) := World.ownsRow_made wc _ L' hsz (by unfold maxLen; omega) (by rw [size_madeCells, Nat.mul_one])
    have HCW : Hid (∀ i, i < L' → b < wc.heap.size ∧ (wc.alloc (.cells (madeCells #[.pointer none] L') 26)).cell? ⟨b, o + i, none⟩ = some (.int .u64 (z i))) := fun i hi => by
      have := HZH.out i hi
      have lb := World.block_lt_of_cell? wc _ this
      rw [World.cell?_alloc_past _ _ _ lb]
      exact ⟨lb, this⟩
    have hWs : (wc.alloc (.cells (madeCells #[.pointer none] L') 26)).heap.size = wc.heap.size + 1 := by simp
    generalize wc.alloc (.cells (madeCells #[.pointer none] L') 26) = W at *
    generalize wc.heap.size = PB at *
    clear HCL HZH HB1 hmk
    obtain ⟨i2, hi2, hz20, hz21, hz22⟩ := info_parts Yba.info26
    go_wp2_with fail
    go_loopw [12, 13] (fun p i wr => ∃ (Ks : List Nat), i = .int .i64 Ks.length ∧ Ks.length ≤ L' ∧ p = .slice (some ⟨PB, 0, none⟩) Ks.length L' ∧ wr.ownsRow w.heap.size 26 1 (.slice (some ⟨PB, 0, none⟩) Ks.length L') Ks.length (Ks.map ptr) ∧ Pool W.heap.size Ks.length (fun i => Ks.getD i 0) (fun i => z i * 11400714819323198485 % 18446744073709551616) wr ∧ Only W wr (fun k => some PB = some k)) (fun _ i _ => L' - (intOf i).toNat)
    case atStart => exact ⟨[], rfl, Nat.zero_le _, rfl, HOW.out, ⟨fun i hi => absurd hi (by simp), fun i hi => absurd hi (by simp), fun i j hi => absurd hi (by simp), fun i hi => absurd hi (by simp)⟩, Only.refl _ _⟩
    case round =>
      obtain ⟨Ks, rfl, hKL, rfl, hown, hpool, hOn⟩ := hrel
      have HPO : Hid (Pool W.heap.size Ks.length (fun i => Ks.getD i 0) (fun i => z i * 11400714819323198485 % 18446744073709551616) wr) := hpool
      have HOR : Hid (wr.ownsRow w.heap.size 26 1 (.slice (some ⟨PB, 0, none⟩) Ks.length L') Ks.length (Ks.map ptr)) := hown
      have hWw := HB2.out.size
      have hWr := hOn.size
      have HON : Hid (Only W wr (fun k => some PB = some k)) := hOn
      clear hpool hown hOn
      by_cases hlt : Ks.length < L'
      · obtain ⟨hbP, cx⟩ := HCW.out Ks.length hlt
        have cx : wr.cell? ⟨b, o + Ks.length, none⟩ = some (.int .u64 (z Ks.length)) := HON.out.cell cx (fun e => by injection e with e2; simp at e2; omega)
        have lb2 : b < wr.heap.size := World.block_lt_of_cell? wr _ cx
        go_wp2_with (first | (go_at_call 6; refine (mix_any _ _).mono ?_; rintro e w3 ⟨rfl, hw3⟩; obtain rfl := hw3.symm) | (at_builtin; refine wpList_append_own_spare _ rfl _ _ 47 rfl w.heap.size 26 i2 1 Yba.underlying47 hi2 hz21 PB Ks.length L' (Ks.map ptr) ?a1 ?a2 ⟨wr.heap.size + 1, 0, none⟩ 1 1 [ptr wr.heap.size] ?a3 ?a4 ?a5 ?a6 ?a7 ?_))
        case a1 => rfl
        case a2 => exact (HOR.out.alloc _).alloc _
        case a3 => rfl
        case a4 => rfl
        case a5 =>
          intro q u hq
          have hsz2 : wr.heap.size + 1 = (wr.alloc (.cells #[.string { data := #[] }, .int .u64 (z Ks.length * 11400714819323198485 % 18446744073709551616), .nilFunc] 52)).heap.size := by simp
          cases q with
          | zero =>
            have hu : ptr wr.heap.size = u := by simpa using hq
            show World.cell? _ ⟨wr.heap.size + 1, 0 + 0, none⟩ = _
            rw [World.cell?_alloc_at _ _ _ _ hsz2, ← hu]
            rfl
          | succ q => simp at hq
        case a6 => simp [Value.oneCell']
        case a7 => omega
        intro w5 hown5 hgr5
        have HO5 : Hid (w5.ownsRow w.heap.size 26 1 (.slice (some ⟨PB, 0, none⟩) (Ks.length + 1) L') (Ks.length + 1) (Ks.map ptr ++ [ptr wr.heap.size])) := hown5
        have HG5 : Hid (Only ((wr.alloc (.cells (keyCells (z Ks.length * 11400714819323198485 % 18446744073709551616)) 52)).alloc (.cells #[.pointer (some ⟨wr.heap.size, 0, none⟩)] 26)) w5 (fun k => some PB = some k)) := Only.of_grown hgr5
        clear hown5 hgr5
        go_wp2_with fail
        go_roundw
        case rel =>
          refine ⟨Ks ++ [wr.heap.size], by simp, by simp; omega, by simp, ?_, HPO.out.grow (n := Ks.length) hWr (by omega) rfl HG5.out, HON.out.trans ((((Only.refl wr _).alloc _).alloc _).trans HG5.out)⟩
          rw [List.length_append, List.map_append]
          exact HO5.out
        case measure => simp [intOf]; omega
      · obtain rfl : L' = Ks.length := by omega
        go_wp2_with fail
        go_meet
        case rel =>
          refine ⟨PB, Ks.length, fun i => Ks.getD i 0, rfl, ⟨(HOR.out.lt PB rfl).2, fun i hi => ⟨?_, HOR.out.frozenAt i⟩⟩, ⟨HPO.out.plain, HPO.out.hash, HPO.out.apart, fun i hi => Nat.le_trans (by omega) (HPO.out.ge i hi)⟩, by omega, fun i hi => by have h9 : W.heap.size ≤ Ks.getD i 0 := HPO.out.ge i hi; show Ks.getD i 0 ≠ PB; omega, HB2.out.trans (HON.out.below hWw (fun k hk => by injection hk with hk; omega))⟩
          show _ = some (ptr (Ks.getD i 0))
          rw [HOR.out.cellAt i (by omega), List.getElem?_map, List.getD_eq_getElem?_getD, List.getElem?_eq_getElem hi]
          rfl
  obtain ⟨PB, pc, kk, rfl, hrow, hpool, hPB, hkP, hB⟩ := hcut
  clear HCL HZH HB1 hmk HZB
  have HRP : Hid (Row wc PB (fun i => ptr (kk i)) L') := hrow
  have HPO : Hid (Pool w.heap.size L' kk (fun i => z i * 11400714819323198485 % 18446744073709551616) wc) := hpool
  have HKP : Hid (∀ i, i < L' → kk i ≠ PB) := hkP
  have HB1 : Hid (Below w.heap.size w wc) := hB
  clear hrow hpool hkP hB
  go_upto_if 101 with fail
  go_cut [14] from 97 to 104 (fun s wc' => ∃ n : Nat, s = .int .i64 n ∧ n ≤ len2 ∧ n ≤ N ∧ wc' = wc)
  case first =>
    by_cases hn : (N : Int) < len2
    · go_wp2_with fail
      go_meet
      case rel => exact ⟨N, rfl, by omega, Nat.le_refl _, rfl⟩
    · go_wp2_with fail
      go_meet
      case rel => exact ⟨len2, rfl, Nat.le_refl _, by omega, rfl⟩
  obtain ⟨n, rfl, hn2, hnN, rfl⟩ := hcut
  have hmk := make_ints n (by omega) wc
  go_upto_block 2 with fail
  have hge := HB1.out.size
  have HRP2 : Hid (Row (wc.alloc (.cells (madeCells #[.int .i64 0] n) 3)) PB (fun i => ptr (kk i)) L') := HRP.out.below ((Below.refl _ _).alloc (Nat.le_refl _) _)
  have HPO2 : Hid (Pool w.heap.size L' kk (fun i => z i * 11400714819323198485 % 18446744073709551616) (wc.alloc (.cells (madeCells #[.int .i64 0] n) 3))) := HPO.out.below ((Below.refl _ _).alloc (Nat.le_refl _) _)
  have HB2 : Hid (Below w.heap.size w (wc.alloc (.cells (madeCells #[.int .i64 0] n) 3))) := HB1.out.alloc hge _
  have HRK : Hid (Row (wc.alloc (.cells (madeCells #[.int .i64 0] n) 3)) wc.heap.size (fun _ => .int .i64 0) n) := Row.made _ _ _ _
  have hWs : (wc.alloc (.cells (madeCells #[.int .i64 0] n) 3)).heap.size = wc.heap.size + 1 := by simp
  have hPBl : PB < wc.heap.size := HRP.out.1
  have HKL : Hid (∀ i, i < L' → kk i < wc.heap.size) := fun i hi => (HPO.out.plain i hi).lt
  generalize wc.alloc (.cells (madeCells #[.int .i64 0] n) 3) = W1 at *
  generalize wc.heap.size = KB at *
  clear HRP HPO HB1 hmk
  obtain ⟨κ, hκ⟩ : ∃ κ : Nat → Nat, ∀ i, κ i = (z2 i).toNat % L' := ⟨_, fun _ => rfl⟩
  have HKA : Hid (∀ i, κ i < L') := fun i => by rw [hκ i]; exact Nat.mod_lt _ (by omega)
  have HKZ : Hid (∀ i, κ i = (z2 i).toNat % L') := hκ
  clear hκ
  go_cut [16] from 105 to 120 (fun i wc' => Row wc' KB (fun i => .int .i64 (κ i)) n ∧ Only W1 wc' (fun k => k = KB))
  case first =>
    go_wp2_with fail
    go_loopw [16] (fun i wr => ∃ j : Nat, i = .int .i64 j ∧ j ≤ n ∧ Row wr KB (fun i => .int .i64 (if i < j then (κ i : Int) else 0)) n ∧ Only W1 wr (fun k => k = KB)) (fun i _ => n - (intOf i).toNat)
    case atStart => exact ⟨0, rfl, Nat.zero_le _, HRK.out.congr (fun i _ => by simp), Only.refl _ _⟩
    case round =>
      obtain ⟨j, rfl, hj, hrow, hon⟩ := hrel
      have HRO : Hid (Row wr KB (fun i => .int .i64 (if i < j then (κ i : Int) else 0)) n) := hrow
      have HON : Hid (Only W1 wr (fun k => k = KB)) := hon
      have hsz := hon.size
      clear hrow hon
      by_cases hlt : j < n
      · obtain ⟨ck, fk⟩ := HRO.out.2 j hlt
        have hck : ∃ y, wr.cell? ⟨KB, j, none⟩ = some (.int .i64 y) := ⟨_, ck⟩
        clear ck
        obtain ⟨y, ck⟩ := hck
        have lK : KB < wr.heap.size := HRO.out.1
        have hb2 := HR2.out.2 j (by omega)
        have lb2 := World.block_lt_of_cell? w _ hb2
        obtain rfl := HR2.out.1 (by omega)
        have cx : wr.cell? ⟨b2, o2 + j, none⟩ = some (.int .u8 (z2 j)) := HON.out.cell ((HB2.out.cell (by exact lb2)).trans hb2) (fun e => by have e4 : b2 = KB := e; have e5 : b2 < w.heap.size := lb2; omega)
        have lb3 : b2 < wr.heap.size := World.block_lt_of_cell? wr _ cx
        obtain ⟨hz0, hz1⟩ := HZ2.out j
        have hLI : (L' : Int) ≠ 0 := by omega
        go_wp2_with fail
        go_roundw
        case rel =>
          refine ⟨j + 1, by go_num, by omega, ?_, HON.out.setCell _ rfl _⟩
          have hv : z2 j % (L' : Int) = (κ j : Int) := by rw [HKZ.out j, Int.natCast_emod, Int.toNat_of_nonneg hz0]
          rw [hv]
          exact (HRO.out.set j hlt _).congr (fun i hi => by
            by_cases e : i = j
            · subst e; simp
            · by_cases e2 : i < j
              · simp [e, e2, show i < j + 1 by omega]
              · simp [e, e2, show ¬ i < j + 1 by omega])
        case measure => simp [intOf]; omega
      · obtain rfl : j = n := by omega
        go_wp2_with fail
        go_meet
        case rel => exact ⟨HRO.out.congr (fun i hi => by simp [hi]), HON.out⟩
  obtain ⟨hrow, hon⟩ := hcut
  have hsz1 := hon.size
  have HRK1 : Hid (Row wc KB (fun i => .int .i64 (κ i)) n) := hrow
  have HRP1 : Hid (Row wc PB (fun i => ptr (kk i)) L') := HRP2.out.only hon (by omega)
  have HPO1 : Hid (Pool w.heap.size L' kk (fun i => z i * 11400714819323198485 % 18446744073709551616) wc) := HPO2.out.only hon (fun i hi => by have := HKL.out i hi; omega)
  have HB1 : Hid (Below w.heap.size w wc) := HB2.out.trans (hon.below HB2.out.size (fun k hk => by omega))
  clear HRP2 HPO2 HB2 HRK hrow hon
  have hmk := make_ents n (by omega) wc
  go_upto_block 4 with fail
  have hge1 := HB1.out.size
  have HRK2 : Hid (Row (wc.alloc (.cells (madeCells #[.pointer none, .nilIface] (n * 2)) 28)) KB (fun i => .int .i64 (κ i)) n) := HRK1.out.below ((Below.refl _ _).alloc (Nat.le_refl _) _)
  have HRP2 : Hid (Row (wc.alloc (.cells (madeCells #[.pointer none, .nilIface] (n * 2)) 28)) PB (fun i => ptr (kk i)) L') := HRP1.out.below ((Below.refl _ _).alloc (Nat.le_refl _) _)
  have HPO2 : Hid (Pool w.heap.size L' kk (fun i => z i * 11400714819323198485 % 18446744073709551616) (wc.alloc (.cells (madeCells #[.pointer none, .nilIface] (n * 2)) 28))) := HPO1.out.below ((Below.refl _ _).alloc (Nat.le_refl _) _)
  have HB2 : Hid (Below w.heap.size w (wc.alloc (.cells (madeCells #[.pointer none, .nilIface] (n * 2)) 28))) := HB1.out.alloc hge1 _
  have HRE : Hid (Row (wc.alloc (.cells (madeCells #[.pointer none, .nilIface] (n * 2)) 28)) wc.heap.size (fun i => if i % 2 = 0 then .pointer none else .nilIface) (n * 2)) := Row.made2 _ _ _ _ _
  have hWs2 : (wc.alloc (.cells (madeCells #[.pointer none, .nilIface] (n * 2)) 28)).heap.size = wc.heap.size + 1 := by simp
  have hKBl : KB < wc.heap.size := HRK1.out.1
  generalize wc.alloc (.cells (madeCells #[.pointer none, .nilIface] (n * 2)) 28) = W2 at *
  generalize wc.heap.size = EB at *
  clear HRP1 HPO1 HB1 HRK1 hmk
  obtain ⟨vv, hvv⟩ : ∃ vv : Nat → Int, ∀ i, vv i = if i < len3 then z3 i else (i : Int) := ⟨_, fun _ => rfl⟩
  have HVV : Hid (∀ i, vv i = if i < len3 then z3 i else (i : Int)) := hvv
  clear hvv
  go_cut [18, 19] from 123 to 149 (fun i v wc' => Row wc' EB (entF kk κ vv) (n * 2) ∧ Only W2 wc' (fun k => k = EB))
  case first =>
    go_wp2_with fail
    go_loopw [18, 19] (fun i v wr => ∃ j : Nat, i = .int .i64 j ∧ j ≤ n ∧ Row wr EB (fun x => if x < j * 2 then entF kk κ vv x else if x % 2 = 0 then .pointer none else .nilIface) (n * 2) ∧ Only W2 wr (fun k => k = EB)) (fun i _ _ => n - (intOf i).toNat)
    case atStart => exact ⟨0, rfl, Nat.zero_le _, HRE.out.congr (fun i _ => by simp), Only.refl _ _⟩
    case round =>
      obtain ⟨j, rfl, hj, hrow, hon⟩ := hrel
      have HRO : Hid (Row wr EB (fun x => if x < j * 2 then entF kk κ vv x else if x % 2 = 0 then .pointer none else .nilIface) (n * 2)) := hrow
      have HON : Hid (Only W2 wr (fun k => k = EB)) := hon
      have hsz := hon.size
      clear hrow hon
      by_cases hlt : j < n
      · obtain ⟨ce, fe⟩ := HRO.out.2 (j * 2) (by omega)
        obtain ⟨cf, ff⟩ := HRO.out.2 (j * 2 + 1) (by omega)
        have ce : wr.cell? ⟨EB, j * 2, none⟩ = some (.pointer none) := ce.trans (by simp)
        have cf : wr.cell? ⟨EB, j * 2 + 1, none⟩ = some .nilIface := cf.trans (by simp; omega)
        have lE : EB < wr.heap.size := HRO.out.1
        have ck := (HRK2.out.only HON.out (by omega)).2 j hlt
        obtain ⟨ck, _⟩ := ck
        have hκj := HKA.out j
        obtain ⟨cp, _⟩ := (HRP2.out.only HON.out (by omega)).2 (κ j) hκj
        have lK : KB < wr.heap.size := World.block_lt_of_cell? wr _ ck
        have lP : PB < wr.heap.size := World.block_lt_of_cell? wr _ cp
        have hκI : (κ j : Int) < L' := by omega
        have hWEB : Row ((wr.setCell ⟨EB, j * 2, none⟩ (ptr (kk (κ j)))).setCell ⟨EB, j * 2 + 1, none⟩ (.iface 3 (.int .i64 (vv j)))) EB (fun x => if x < (j + 1) * 2 then entF kk κ vv x else if x % 2 = 0 then .pointer none else .nilIface) (n * 2) :=
          ((HRO.out.set (j * 2) (by omega) _).set (j * 2 + 1) (by omega) _).congr (fun i hi => by
            by_cases e1 : i = j * 2 + 1
            · subst e1
              simp [entF, show (j * 2 + 1) % 2 = 1 by omega, show (j * 2 + 1) / 2 = j by omega, show j * 2 + 1 < (j + 1) * 2 by omega]
            · by_cases e2 : i = j * 2
              · subst e2
                simp [entF, show j * 2 < (j + 1) * 2 by omega]
              · by_cases e3 : i < j * 2
                · simp [e1, e2, e3, show i < (j + 1) * 2 by omega]
                · simp [e1, e2, e3, show ¬ i < (j + 1) * 2 by omega])
        have HWE : Hid (Row ((wr.setCell ⟨EB, j * 2, none⟩ (ptr (kk (κ j)))).setCell ⟨EB, j * 2 + 1, none⟩ (.iface 3 (.int .i64 (vv j)))) EB (fun x => if x < (j + 1) * 2 then entF kk κ vv x else if x % 2 = 0 then .pointer none else .nilIface) (n * 2)) := hWEB
        clear hWEB
        by_cases h3 : j < len3
        · have hb3 := HR3.out.2 j h3
          have lb3 := World.block_lt_of_cell? w _ hb3
          obtain rfl := HR3.out.1 (by omega)
          have cx : wr.cell? ⟨b3, o3 + j, none⟩ = some (.int .i64 (z3 j)) := HON.out.cell ((HB2.out.cell (by exact lb3)).trans hb3) (fun e => by have e4 : b3 = EB := e; have e5 : b3 < w.heap.size := lb3; omega)
          have lb4 : b3 < wr.heap.size := World.block_lt_of_cell? wr _ cx
          have h3I : (j : Int) < len3 := by omega
          have hvj : vv j = z3 j := by rw [HVV.out j, if_pos h3]
          rw [hvj] at HWE
          clear hvj
          go_wp2_with fail
          go_roundw
          case rel => exact ⟨j + 1, by go_num, by omega, HWE.out, (HON.out.setCell _ rfl _).setCell _ rfl _⟩
          case measure => simp [intOf]; omega
        · have h3I : ¬ (j : Int) < len3 := by omega
          have hvj : vv j = (j : Int) := by rw [HVV.out j, if_neg h3]
          rw [hvj] at HWE
          clear hvj
          go_wp2_with fail
          go_roundw
          case rel => exact ⟨j + 1, by go_num, by omega, HWE.out, (HON.out.setCell _ rfl _).setCell _ rfl _⟩
          case measure => simp [intOf]; omega
      · obtain rfl : j = n := by omega
        go_wp2_with fail
        go_meet
        case rel => exact ⟨HRO.out.congr (fun i hi => by rw [if_pos hi]), HON.out⟩
  obtain ⟨hrow, hon⟩ := hcut
  have hsz2 := hon.size
  have HRE1 : Hid (Row wc EB (entF kk κ vv) (n * 2)) := hrow
  have HRK1 : Hid (Row wc KB (fun i => .int .i64 (κ i)) n) := HRK2.out.only hon (by omega)
  have HRP1 : Hid (Row wc PB (fun i => ptr (kk i)) L') := HRP2.out.only hon (by omega)
  have HPO1 : Hid (Pool w.heap.size L' kk (fun i => z i * 11400714819323198485 % 18446744073709551616) wc) := HPO2.out.only hon (fun i hi => by have := HKL.out i hi; omega)
  have HB1 : Hid (Below w.heap.size w wc) := HB2.out.trans (hon.below HB2.out.size (fun k hk => by omega))
  clear HRP2 HPO2 HB2 HRK2 HRE hrow hon
  have hNle : N ≤ 256 := by rw [HNK.out]; exact Nat.pow_le_pow_right (n := 2) (by omega) hk8
  have hmk := make_cells N (by omega) wc
  go_upto_block 6 with fail
  rw [show (63 : Int) - (k : Int) = ((63 - k : Nat) : Int) by omega]
  have hge2 := HB1.out.size
  have hNp : 0 < N := by rw [HNK.out]; exact Nat.two_pow_pos k
  obtain ⟨hh, hhe⟩ : ∃ hh : Nat → Int, hh = fun i => z i * 11400714819323198485 % 18446744073709551616 := ⟨_, rfl⟩
  rw [← hhe] at HPO1
  have HHB : Hid (∀ i, 0 ≤ hh i ∧ hh i < 18446744073709551616) := fun i => by rw [hhe]; exact ⟨Int.emod_nonneg _ (by decide), Int.emod_lt_of_pos _ (by decide)⟩
  clear hhe
  obtain ⟨H, hHe⟩ : ∃ H : Nat → Nat, ∀ a, H a = (hh a / 2 ^ (63 - k)).toNat := ⟨_, fun _ => rfl⟩
  have HH1 : Hid (∀ a, hh a / 2 ^ min (63 - k) 64 = (H a : Int)) := fun a => by
    rw [hHe a, Nat.min_eq_left (by omega)]
    exact (Int.toNat_of_nonneg (Int.ediv_nonneg (HHB.out a).1 (Int.le_of_lt (Int.pow_pos (by decide))))).symm
  have HH2 : Hid (∀ a, H a < 2 * N) := fun a => by
    have h1 := HH1.out a
    rw [Nat.min_eq_left (by omega)] at h1
    have h2 : hh a / 2 ^ (63 - k) < ((2 * N : Nat) : Int) := by
      refine Int.ediv_lt_of_lt_mul (Int.pow_pos (by decide)) ?_
      have e : ((2 * N : Nat) : Int) * 2 ^ (63 - k) = 18446744073709551616 := by
        rw [HNK.out, show 2 * 2 ^ k = 2 ^ (k + 1) from by rw [Nat.pow_succ, Nat.mul_comm], Int.natCast_pow]
        show (2 : Int) ^ (k + 1) * 2 ^ (63 - k) = _
        rw [← Int.pow_add, show k + 1 + (63 - k) = 64 by omega]
        decide
      rw [e]
      exact (HHB.out a).2
    omega
  clear hHe
  have HBn : Hid (Below wc.heap.size wc ((wc.alloc (.cells (madeCells cellZ (N * 6)) 35)).alloc (.cells #[.slice (some ⟨wc.heap.size, 0, none⟩) N N, .int .u8 (63 - k : Nat), .int .u32 0, .int .u32 0] 38))) := ((Below.refl _ _).alloc (Nat.le_refl _) _).alloc (by simp) _
  have HMS : Hid (Mem (wc.heap.size + 1) wc.heap.size N (63 - k) 0 0 (fun q => kk (κ q)) (fun q => .iface 3 (.int .i64 (vv q))) (pvOf κ 0) (kyOf κ 0) (fun _ => 0) ((wc.alloc (.cells (madeCells cellZ (N * 6)) 35)).alloc (.cells #[.slice (some ⟨wc.heap.size, 0, none⟩) N N, .int .u8 (63 - k : Nat), .int .u32 0, .int .u32 0] 38))) := Mem.start wc N (63 - k) _ _ κ
  have HRE2 : Hid (Row ((wc.alloc (.cells (madeCells cellZ (N * 6)) 35)).alloc (.cells #[.slice (some ⟨wc.heap.size, 0, none⟩) N N, .int .u8 (63 - k : Nat), .int .u32 0, .int .u32 0] 38)) EB (entF kk κ vv) (n * 2)) := HRE1.out.below HBn.out
  have HRK2 : Hid (Row ((wc.alloc (.cells (madeCells cellZ (N * 6)) 35)).alloc (.cells #[.slice (some ⟨wc.heap.size, 0, none⟩) N N, .int .u8 (63 - k : Nat), .int .u32 0, .int .u32 0] 38)) KB (fun i => .int .i64 (κ i)) n) := HRK1.out.below HBn.out
  have HRP2 : Hid (Row ((wc.alloc (.cells (madeCells cellZ (N * 6)) 35)).alloc (.cells #[.slice (some ⟨wc.heap.size, 0, none⟩) N N, .int .u8 (63 - k : Nat), .int .u32 0, .int .u32 0] 38)) PB (fun i => ptr (kk i)) L') := HRP1.out.below HBn.out
  have HPO2 : Hid (Pool w.heap.size L' kk hh ((wc.alloc (.cells (madeCells cellZ (N * 6)) 35)).alloc (.cells #[.slice (some ⟨wc.heap.size, 0, none⟩) N N, .int .u8 (63 - k : Nat), .int .u32 0, .int .u32 0] 38))) := HPO1.out.below HBn.out
  have HB2 : Hid (Below w.heap.size w ((wc.alloc (.cells (madeCells cellZ (N * 6)) 35)).alloc (.cells #[.slice (some ⟨wc.heap.size, 0, none⟩) N N, .int .u8 (63 - k : Nat), .int .u32 0, .int .u32 0] 38))) := HB1.out.trans (HBn.out.mono hge2)
  have hWs3 : ((wc.alloc (.cells (madeCells cellZ (N * 6)) 35)).alloc (.cells #[.slice (some ⟨wc.heap.size, 0, none⟩) N N, .int .u8 (63 - k : Nat), .int .u32 0, .int .u32 0] 38)).heap.size = wc.heap.size + 2 := by simp
  have hEBl : EB < wc.heap.size := HRE1.out.1
  clear HBn
  generalize (wc.alloc (.cells (madeCells cellZ (N * 6)) 35)).alloc (.cells #[.slice (some ⟨wc.heap.size, 0, none⟩) N N, .int .u8 (63 - k : Nat), .int .u32 0, .int .u32 0] 38) = W3 at *
  clear hmk
  generalize wc.heap.size = B at *
  generalize hSe : B + 1 = S at *
  clear HRP1 HPO1 HB1 HRK1 HRE1
  go_cut [21] from 157 to 169 (fun i wc' => ∃ (sl : Nat → Nat) (rch : Nat), Mem S B N (63 - k) n rch (fun q => kk (κ q)) (fun q => .iface 3 (.int .i64 (vv q))) (pvOf κ n) (kyOf κ n) sl wc' ∧ Tab N n κ H sl rch ∧ Only W3 wc' (fun k => k = S ∨ k = B))
  case first =>
    go_wp2_with fail
    go_loopw [21] (fun i wr => ∃ (j : Nat) (sl : Nat → Nat) (rch : Nat), i = .int .i64 j ∧ j ≤ n ∧ Mem S B N (63 - k) j rch (fun q => kk (κ q)) (fun q => .iface 3 (.int .i64 (vv q))) (pvOf κ j) (kyOf κ j) sl wr ∧ Tab N j κ H sl rch ∧ Only W3 wr (fun k => k = S ∨ k = B)) (fun i _ => n - (intOf i).toNat)
    case atStart => exact ⟨0, _, 0, rfl, Nat.zero_le _, HMS.out, Tab.start N κ H, Only.refl _ _⟩
    case round =>
      obtain ⟨j, sl, rch, rfl, hj, hmem, htab, hon⟩ := hrel
      have HME : Hid (Mem S B N (63 - k) j rch (fun q => kk (κ q)) (fun q => .iface 3 (.int .i64 (vv q))) (pvOf κ j) (kyOf κ j) sl wr) := hmem
      have HTA : Hid (Tab N j κ H sl rch) := htab
      have HON : Hid (Only W3 wr (fun k => k = S ∨ k = B)) := hon
      have hsz := hon.size
      clear hmem htab hon
      by_cases hlt : j < n
      · have hre := HRE2.out.only HON.out (by omega)
        have ce : wr.cell? ⟨EB, j * 2, none⟩ = some (ptr (kk (κ j))) := (hre.2 (j * 2) (by omega)).1.trans (by simp [entF])
        have cf : wr.cell? ⟨EB, j * 2 + 1, none⟩ = some (.iface 3 (.int .i64 (vv j))) := (hre.2 (j * 2 + 1) (by omega)).1.trans (by simp [entF, show (j * 2 + 1) % 2 = 1 by omega, show (j * 2 + 1) / 2 = j by omega])
        have lE : EB < wr.heap.size := hre.1
        clear hre
        have hjI : (j : Int) < n := by omega
        have hpw := HPO2.out.only HON.out (fun i hi => by have := HKL.out i hi; omega)
        have hadd := add_any S B N (63 - k) j rch (k + 1) κ H (fun q => kk (κ q)) (fun q => .iface 3 (.int .i64 (vv q))) sl (fun q => hh (κ q)) wr (.int .i64 (vv j)) rfl HME.out
          (fun q hq => ⟨by have := HKL.out _ (HKA.out q); show kk (κ q) ≠ S; omega, by have := HKL.out _ (HKA.out q); show kk (κ q) ≠ B; omega, hpw.hash _ (HKA.out q), HHB.out _⟩) HTA.out (by rw [HNK.out, Nat.pow_succ, Nat.mul_comm]) hNle (by omega) HH2.out (fun q hq => HH1.out _)
          (fun q hq => ⟨fun e => hpw.apart _ _ (HKA.out q) (HKA.out j) e, fun e => by show kk (κ q) = kk (κ j); rw [e]⟩) (fun q hq => hpw.plain _ (HKA.out q))
        have HAD : Hid (Calls Yba.prog 7 #[.pointer (some ⟨S, 0, none⟩), .int .u32 j, .agg #[.pointer (some ⟨kk (κ j), 0, none⟩), .iface 3 (.int .i64 (vv j))]] wr (Added S B N (63 - k) j κ H (fun q => kk (κ q)) (fun q => .iface 3 (.int .i64 (vv q))) wr)) := hadd
        clear hadd hpw
        go_wp2_with (go_at_call 7; refine HAD.out.mono ?_; rintro e w5 ⟨rfl, sl5, rch5, hm5, ht5, ho5⟩)
        go_roundw
        case rel => exact ⟨j + 1, sl5, rch5, by go_num, by omega, hm5, ht5, HON.out.trans ho5⟩
        case measure => simp [intOf]; omega
      · obtain rfl : j = n := by omega
        go_wp2_with fail
        go_meet
        case rel => exact ⟨sl, rch, HME.out, HTA.out, HON.out⟩
  obtain ⟨sl, rch, hmem, htab, hon⟩ := hcut
  have hsz3 := hon.size
  have HME : Hid (Mem S B N (63 - k) n rch (fun q => kk (κ q)) (fun q => .iface 3 (.int .i64 (vv q))) (pvOf κ n) (kyOf κ n) sl wc) := hmem
  have HTA : Hid (Tab N n κ H sl rch) := htab
  have HRE1 : Hid (Row wc EB (entF kk κ vv) (n * 2)) := HRE2.out.only hon (by omega)
  have HRK1 : Hid (Row wc KB (fun i => .int .i64 (κ i)) n) := HRK2.out.only hon (by omega)
  have HRP1 : Hid (Row wc PB (fun i => ptr (kk i)) L') := HRP2.out.only hon (by omega)
  have HPO1 : Hid (Pool w.heap.size L' kk hh wc) := HPO2.out.only hon (fun i hi => by have := HKL.out i hi; omega)
  have HB1 : Hid (Below w.heap.size w wc) := HB2.out.trans (hon.below HB2.out.size (fun k hk => by omega))
  clear HRP2 HPO2 HB2 HRK2 HRE2 HMS hmem htab hon
  go_step
  exact mid_any w.heap.size w wc N n L' (k + 1) (63 - k) rch S B EB KB PB pc kk κ H sl hh vv HME.out HTA.out HRE1.out HRK1.out HRP1.out HPO1.out HB1.out HKA.out HHB.out HH1.out HH2.out hNle hNp (by rw [HNK.out, Nat.pow_succ, Nat.mul_comm]) hnN hL16 (by omega) HB1.out.size
end Go.Proofs.Ybulkdoqu
