import Derived.Test.YbulkdoquRows
import Derived.WalkKit
import Derived.WalkSpells
import Derived.WalkLawsBesides
import Derived.Deep.LoopGhost
import Derived.Deep.OwnRows
import Derived.BigQuiet
import Derived.Laws.LoneSync
import Derived.Laws.BitsLemmas
import Derived.Laws.Bits64
namespace Go.Proofs.Ybulkdoqu
open Go.RowKit
set_option linter.unusedSimpArgs false

theorem wraps64 (n : Int) (h₀ : 0 ≤ n) (h₁ : n < 2 ^ 64) : IntKind.u64.wrap n = n := by rw [IntKind.wrap_u64]; omega

/-- '& (2^i - 1)' of a 64-bit number is the rest by 2^i -/
theorem and_mask (i : Nat) (hi : i ≤ 64) (x : Int) (h0 : 0 ≤ x) (h1 : x < 18446744073709551616) : bits .and .u64 x (2 ^ i - 1) = x % 2 ^ i :=
  bits_mask .u64 64 (by decide) wraps64 i hi x h0 (by simpa using h1)

theorem and_one (i : Nat) (h : i < 18446744073709551616) : bits .and .u64 (i : Int) 1 = ((i % 2 : Nat) : Int) := by
  have := and_mask 1 (by decide) (i : Int) (by omega) (by omega)
  simpa using this

theorem load13 (a : Addr) (v : Int) (w : World) (h : w.cell? a = some (.int .u32 v)) : (callFunc 13 #[.pointer (some a)]).run Yba.prog w = .ok (.value (.int .u32 v)) w :=
  run_call_load Yba.func13 (by kernel_rfl) (by kernel_rfl) (by kernel_rfl) .u32 (by kernel_rfl) h

theorem store14 (a : Addr) (u : Value) (v : Int) (w : World) (h : w.cell? a = some u) (hf : w.frozen? a = false) : (callFunc 14 #[.pointer (some a), .int .u32 v]).run Yba.prog w = .ok (.value (.tuple #[])) (w.setCell a (.int .u32 v)) :=
  run_call_store Yba.func14 (by kernel_rfl) (by kernel_rfl) (by kernel_rfl) (by kernel_rfl) h hf

set_option maxRecDepth 100000 in
theorem load_any (b o : Nat) (v : Int) (w : World) (h : w.cell? ⟨b, o, none⟩ = some (.int .u32 v)) :
    Calls Yba.prog 8 #[.pointer (some ⟨b, o, none⟩)] w fun e w' => e = .returned (.int .u32 v) ∧ w' = w := by
  have h13 := load13 _ _ _ h
  go_enter Yba.func8, Yba.ntmps8
  go_wp2
  go_ret
  exact ⟨rfl, rfl⟩

set_option maxRecDepth 100000 in
theorem store_any (b o : Nat) (u v : Int) (w : World) (h : w.cell? ⟨b, o, none⟩ = some (.int .u32 u)) (hf : w.frozen? ⟨b, o, none⟩ = false) :
    Calls Yba.prog 12 #[.pointer (some ⟨b, o, none⟩), .int .u32 v] w fun e w' => e = .returned (.tuple #[]) ∧ w' = w.setCell ⟨b, o, none⟩ (.int .u32 v) := by
  have h14 := store14 _ _ v _ h hf
  go_enter Yba.func12, Yba.ntmps12
  go_wp2
  refine bodyPost_end (results_none rfl _ _ _) rfl ?_
  exact ⟨rfl, rfl⟩

theorem mask_any (a : Option Addr) (N c : Nat) (hN : N ≤ 256) (h1 : 1 ≤ N) (w : World) :
    Calls Yba.prog 9 #[.slice a N c] w fun e w' => e = .returned (.int .u64 (N * 2 - 1)) ∧ w' = w := by
  go_enter Yba.func9, Yba.ntmps9
  go_wp2
  go_ret
  exact ⟨rfl, rfl⟩

/-- where slot i lies in the cells' block -/
def sOff (i : Nat) : Nat := i / 2 * 6 + 4 + i % 2

theorem slot_any (B N i : Nat) (hi : i < 2 * N) (hN : N ≤ 256) (w : World) :
    Calls Yba.prog 10 #[.slice (some ⟨B, 0, none⟩) N N, .int .u64 i] w fun e w' => e = .returned (.pointer (some ⟨B, sOff i, none⟩)) ∧ w' = w := by
  have hb := and_one i (by omega)
  have h2 : ((i % 2 : Nat) : Int) < 2 := by omega
  have h3 : i / 2 < N := by omega
  go_enter Yba.func10, Yba.ntmps10
  go_wp2
  go_ret
  exact ⟨rfl, rfl⟩

structure Only (w w' : World) (bs : Nat → Prop) : Prop where
  os : w'.os = w.os
  tape : w'.tape = w.tape
  output : w'.output = w.output
  size : w.heap.size ≤ w'.heap.size
  block : ∀ k, k < w.heap.size → ¬ bs k → w'.heap[k]? = w.heap[k]?

theorem Only.refl (w : World) (bs : Nat → Prop) : Only w w bs := ⟨rfl, rfl, rfl, Nat.le_refl _, fun _ _ _ => rfl⟩
theorem Only.trans {a b c : World} {bs : Nat → Prop} (h : Only a b bs) (k : Only b c bs) : Only a c bs :=
  ⟨k.os.trans h.os, k.tape.trans h.tape, k.output.trans h.output, Nat.le_trans h.size k.size, fun i hi hp => (k.block i (Nat.lt_of_lt_of_le hi h.size) hp).trans (h.block i hi hp)⟩
theorem Only.of_below {a b : World} (h : Below a.heap.size a b) (bs : Nat → Prop) : Only a b bs := ⟨h.os, h.tape, h.output, h.size, fun k hk _ => h.block k hk⟩
theorem Only.alloc {a b : World} {bs : Nat → Prop} (h : Only a b bs) (o : Obj) : Only a (b.alloc o) bs :=
  h.trans ⟨rfl, rfl, rfl, by simp, fun k hk _ => Below.heap_alloc _ _ _ hk⟩
theorem Only.drew {a b : World} {bs : Nat → Prop} (h : Only a b bs) : Only a b.drew bs := ⟨h.os, h.tape, h.output, h.size, h.block⟩
theorem Only.drewN {a b : World} {bs : Nat → Prop} (h : Only a b bs) (n : Nat) : Only a (b.drewN n) bs := ⟨h.os, h.tape, h.output, h.size, h.block⟩
theorem Only.setCell {a b : World} {bs : Nat → Prop} (h : Only a b bs) (p : Addr) (hp : bs p.block) (u : Value) : Only a (b.setCell p u) bs :=
  h.trans ⟨rfl, rfl, rfl, by simp [World.setCell], fun k hk hn => Below.heap_setCell _ _ _ _ (fun e => hn (e ▸ hp))⟩
theorem Only.below {a b : World} {bs : Nat → Prop} {base : Nat} (h : Only a b bs) (hb : base ≤ a.heap.size) (hs : ∀ k, bs k → base ≤ k) : Below base a b :=
  ⟨h.os, h.tape, h.output, h.size, fun k hk => h.block k (Nat.lt_of_lt_of_le hk hb) (fun e => absurd (hs k e) (by omega))⟩
theorem Only.cell {a b : World} {bs : Nat → Prop} (h : Only a b bs) {p : Addr} {v : Value} (hc : a.cell? p = some v) (hn : ¬ bs p.block) : b.cell? p = some v :=
  (World.cell?_of_block (w := a) (h.block _ (World.block_lt_of_cell? a _ hc) hn)).trans hc

theorem sOff_inj {i j : Nat} (h : sOff i = sOff j) : i = j := by unfold sOff at h; omega
theorem sOff_place {i q r : Nat} (hr : r < 4) : sOff i ≠ q * 6 + r := by unfold sOff; omega

/-- the store in memory: n places are written, 'sl' are the slots -/
structure Mem (S B N sh : Nat) (n rch : Nat) (kb : Nat → Nat) (vl : Nat → Value) (pv ky : Nat → Nat) (sl : Nat → Nat) (w : World) : Prop where
  ne : S ≠ B
  c0 : w.cell? ⟨S, 0, none⟩ = some (.slice (some ⟨B, 0, none⟩) N N)
  c1 : w.cell? ⟨S, 1, none⟩ = some (.int .u8 sh)
  c2 : w.cell? ⟨S, 2, none⟩ = some (.int .u32 0)
  c3 : w.cell? ⟨S, 3, none⟩ = some (.int .u32 rch)
  f3 : w.frozen? ⟨S, 3, none⟩ = false
  key : ∀ q, q < N → w.cell? ⟨B, q * 6, none⟩ = some (if q < n then .pointer (some ⟨kb q, 0, none⟩) else .pointer none)
  val : ∀ q, q < N → w.cell? ⟨B, q * 6 + 1, none⟩ = some (if q < n then vl q else .nilIface)
  prev : ∀ q, q < N → w.cell? ⟨B, q * 6 + 2, none⟩ = some (.int .u32 (pv q))
  keys : ∀ q, q < N → w.cell? ⟨B, q * 6 + 3, none⟩ = some (.int .u32 (ky q))
  slot : ∀ j, j < 2 * N → w.cell? ⟨B, sOff j, none⟩ = some (.int .u32 (sl j))
  fr : ∀ o, w.frozen? ⟨B, o, none⟩ = false

theorem Mem.drewN {S B N sh n rch : Nat} {kb : Nat → Nat} {vl : Nat → Value} {pv ky sl : Nat → Nat} {w : World} (h : Mem S B N sh n rch kb vl pv ky sl w) (k : Nat) : Mem S B N sh n rch kb vl pv ky sl (w.drewN k) :=
  ⟨h.ne, h.c0, h.c1, h.c2, h.c3, h.f3, h.key, h.val, h.prev, h.keys, h.slot, h.fr⟩

/-- one slot is written -/
theorem Mem.setSlot {S B N sh n rch : Nat} {kb : Nat → Nat} {vl : Nat → Value} {pv ky sl : Nat → Nat} {w : World} (h : Mem S B N sh n rch kb vl pv ky sl w) (j v : Nat) (hj : j < 2 * N) :
    Mem S B N sh n rch kb vl pv ky (fun x => if x = j then v else sl x) (w.setCell ⟨B, sOff j, none⟩ (.int .u32 v)) := by
  have hS : ∀ o, (w.setCell ⟨B, sOff j, none⟩ (.int .u32 v)).cell? ⟨S, o, none⟩ = w.cell? ⟨S, o, none⟩ := fun o => World.cell?_of_block (w := w) (Below.heap_setCell _ _ _ _ (by simpa using h.ne))
  have hP : ∀ q r, r < 4 → (w.setCell ⟨B, sOff j, none⟩ (.int .u32 v)).cell? ⟨B, q * 6 + r, none⟩ = w.cell? ⟨B, q * 6 + r, none⟩ := fun q r hr =>
    World.cell?_setCell_other _ _ _ _ (by intro e; injection e with _ e2; exact sOff_place hr e2)
  refine ⟨h.ne, (hS _).trans h.c0, (hS _).trans h.c1, (hS _).trans h.c2, (hS _).trans h.c3, by simpa using h.f3, fun q hq => (hP q 0 (by omega)).trans (h.key q hq), fun q hq => (hP q 1 (by omega)).trans (h.val q hq), fun q hq => (hP q 2 (by omega)).trans (h.prev q hq), fun q hq => (hP q 3 (by omega)).trans (h.keys q hq), fun x hx => ?_, fun o => by simpa using h.fr o⟩
  by_cases e : x = j
  · subst e
    rw [if_pos rfl]
    exact World.cell?_setCell_same _ _ _ (h.slot x hx)
  · rw [if_neg e, World.cell?_setCell_other _ _ _ _ (by intro e2; injection e2 with _ e3; exact e (sOff_inj e3.symm))]
    exact h.slot x hx

/-- the reach is written -/
theorem Mem.setReach {S B N sh n rch : Nat} {kb : Nat → Nat} {vl : Nat → Value} {pv ky sl : Nat → Nat} {w : World} (h : Mem S B N sh n rch kb vl pv ky sl w) (v : Nat) :
    Mem S B N sh n v kb vl pv ky sl (w.setCell ⟨S, 3, none⟩ (.int .u32 v)) := by
  have hB : ∀ o, (w.setCell ⟨S, 3, none⟩ (.int .u32 v)).cell? ⟨B, o, none⟩ = w.cell? ⟨B, o, none⟩ := fun o => World.cell?_of_block (w := w) (Below.heap_setCell _ _ _ _ (by simpa using fun e : B = S => h.ne e.symm))
  have hS : ∀ o, o ≠ 3 → (w.setCell ⟨S, 3, none⟩ (.int .u32 v)).cell? ⟨S, o, none⟩ = w.cell? ⟨S, o, none⟩ := fun o ho => World.cell?_setCell_other _ _ _ _ (by intro e; injection e with _ e2; exact ho e2.symm)
  exact ⟨h.ne, (hS _ (by decide)).trans h.c0, (hS _ (by decide)).trans h.c1, (hS _ (by decide)).trans h.c2, World.cell?_setCell_same _ _ _ h.c3, by simpa using h.f3, fun q hq => (hB _).trans (h.key q hq), fun q hq => (hB _).trans (h.val q hq), fun q hq => (hB _).trans (h.prev q hq), fun q hq => (hB _).trans (h.keys q hq), fun x hx => (hB _).trans (h.slot x hx), fun o => by simpa using h.fr o⟩

end Go.Proofs.Ybulkdoqu
