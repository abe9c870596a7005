/-
  THE RING OF SLOTS, plain: how far a slot lies from a home, what 'file' makes of the slots and of the reach. No Go here.
-/
import Derived.Below
namespace Go.Proofs.Ybulkdoqu

/-- how far slot j lies from the home h -/
def dst (N j h : Nat) : Nat := (((j : Int) - h) % ((2 * N : Nat) : Int)).toNat

theorem dst_lt (N j h : Nat) (hN : 0 < N) : dst N j h < 2 * N := by
  unfold dst
  have h1 := Int.emod_nonneg ((j : Int) - h) (show ((2 * N : Nat) : Int) ≠ 0 by omega)
  have h2 := Int.emod_lt_of_pos ((j : Int) - h) (show (0 : Int) < ((2 * N : Nat) : Int) by omega)
  omega

/-- the reach that 'file' has gathered behind t residents -/
def rOf (N : Nat) (sl hm : Nat → Nat) (i d : Nat) : Nat → Nat
  | 0 => d + 1
  | t + 1 => max (rOf N sl hm i d t) (dst N ((i + t) % (2 * N)) (hm (sl ((i + t) % (2 * N)) - 1)) + 2)

theorem rOf_le (N : Nat) (sl hm : Nat → Nat) (i d : Nat) (hN : 0 < N) (hd : d < 2 * N) : ∀ t, rOf N sl hm i d t ≤ 2 * N + 1
  | 0 => by simp only [rOf]; omega
  | t + 1 => by
    have h1 := rOf_le N sl hm i d hN hd t
    have h2 := dst_lt N ((i + t) % (2 * N)) (hm (sl ((i + t) % (2 * N)) - 1)) hN
    simp only [rOf]
    omega

theorem dst_int (N j h : Nat) (hN : 0 < N) : ((dst N j h : Nat) : Int) = ((j : Int) - h) % ((2 * N : Nat) : Int) := by
  unfold dst
  exact Int.toNat_of_nonneg (Int.emod_nonneg _ (by omega))

/-- the slots while 'file' moves the residents: those behind offset k have been moved -/
def slAt (N i e : Nat) (sl : Nat → Nat) (k : Nat) : Nat → Nat := fun x => if k < dst N x i ∧ dst N x i ≤ e then sl ((x + (2 * N - 1)) % (2 * N)) else sl x

theorem mod2 (M x : Nat) (h : x < 2 * M) : x % M = if x < M then x else x - M := by
  split
  · exact Nat.mod_eq_of_lt (by omega)
  · rw [Nat.mod_eq_sub_mod (by omega)]; exact Nat.mod_eq_of_lt (by omega)

theorem dst_eq (N j h : Nat) (hj : j < 2 * N) (hh : h < 2 * N) : dst N j h = if h ≤ j then j - h else j + 2 * N - h := by
  have e := dst_int N j h (by omega)
  split
  · rw [Int.emod_eq_of_lt (by omega) (by omega)] at e; omega
  · rw [← Int.add_emod_right, Int.emod_eq_of_lt (by omega) (by omega)] at e; omega

theorem dst_pos (N i t : Nat) (hi : i < 2 * N) (ht : t < 2 * N) : dst N ((i + t) % (2 * N)) i = t := by
  rw [dst_eq _ _ _ (Nat.mod_lt _ (by omega)) hi, mod2 _ _ (by omega)]
  split <;> split <;> omega

theorem pos_dst (N i x : Nat) (hi : i < 2 * N) (hx : x < 2 * N) : (i + dst N x i) % (2 * N) = x := by
  have := dst_lt N x i (by omega)
  rw [mod2 _ _ (by omega), dst_eq _ _ _ hx hi]
  split <;> split <;> omega

theorem back_pos (N i t : Nat) (hi : i < 2 * N) (ht : t + 1 < 2 * N) : ((i + (t + 1)) % (2 * N) + (2 * N - 1)) % (2 * N) = (i + t) % (2 * N) := by
  rw [mod2 (2 * N) (i + (t + 1)) (by omega), mod2 (2 * N) (i + t) (by omega)]
  split
  · rw [mod2 _ _ (by omega)]; split <;> split <;> omega
  · rw [mod2 _ _ (by omega)]; split <;> split <;> omega

theorem slAt_step (N i e k : Nat) (sl : Nat → Nat) (hi : i < 2 * N) (hk : k + 1 ≤ e) (he : e < 2 * N) :
    (fun x => if x = (i + (k + 1)) % (2 * N) then slAt N i e sl (k + 1) ((i + k) % (2 * N)) else slAt N i e sl (k + 1) x) = fun x => if x = (i + (k + 1)) % (2 * N) then sl ((i + k) % (2 * N)) else slAt N i e sl (k + 1) x := by
  funext x
  split
  · unfold slAt
    rw [dst_pos _ _ _ hi (by omega), if_neg (by omega)]
  · rfl

theorem slAt_next (N i e k : Nat) (sl : Nat → Nat) (hi : i < 2 * N) (hk : k + 1 ≤ e) (he : e < 2 * N) (x : Nat) (hx : x < 2 * N) :
    (if x = (i + (k + 1)) % (2 * N) then sl ((i + k) % (2 * N)) else slAt N i e sl (k + 1) x) = slAt N i e sl k x := by
  by_cases h : x = (i + (k + 1)) % (2 * N)
  · rw [if_pos h]
    subst h
    unfold slAt
    rw [dst_pos _ _ _ hi (by omega), if_pos (by omega), back_pos _ _ _ hi (by omega)]
  · rw [if_neg h]
    unfold slAt
    have hd : dst N x i ≠ k + 1 := fun e => h (by rw [← e, pos_dst _ _ _ hi hx])
    by_cases h1 : k < dst N x i ∧ dst N x i ≤ e
    · rw [if_pos h1, if_pos (by omega)]
    · rw [if_neg h1, if_neg (by omega)]

theorem slAt_full (N i e : Nat) (sl : Nat → Nat) (x : Nat) : slAt N i e sl e x = sl x := by unfold slAt; rw [if_neg (by omega)]

end Go.Proofs.Ybulkdoqu
