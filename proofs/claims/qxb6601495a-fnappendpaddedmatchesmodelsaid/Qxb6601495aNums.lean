/-
  Seat b6601495a: plain lemmas on the decimal digits of a number below 10^W: no Go.
-/
import Derived.WalkKit
namespace Go.Proofs.Qxb6601495a

/-- byte j of the W digits of N -/
def dig (N W j : Nat) : Int := 48 + ((N / 10 ^ (W - 1 - j) % 10 : Nat) : Int)
/-- the W digits of N, as bytes -/
def digs (N W : Nat) : List Int := (List.range W).map (dig N W)
/-- the row behind k rounds: the last k digits stand, the rest are zeros -/
def pad (N W k : Nat) : List Int := (List.range W).map fun j => if W ≤ j + k then dig N W j else 48

theorem digs_length (N W : Nat) : (digs N W).length = W := by simp [digs]
theorem pad_length (N W k : Nat) : (pad N W k).length = W := by simp [pad]

theorem pad_zero (N W : Nat) : pad N W 0 = List.replicate W 48 := by
  apply List.ext_getElem
  · simp [pad]
  · intro j h1 h2
    simp [pad] at h1 ⊢
    omega

theorem pad_step (N W k : Nat) (hk : k < W) : (pad N W k).set (W - 1 - k) (48 + ((N / 10 ^ k % 10 : Nat) : Int)) = pad N W (k + 1) := by
  apply List.ext_getElem
  · simp [pad]
  · intro j h1 h2
    simp only [pad, List.length_set, List.length_map, List.length_range] at h1
    rw [List.getElem_set]
    simp only [pad, List.getElem_map, List.getElem_range]
    by_cases e : W - 1 - k = j
    · rw [if_pos e, if_pos (by omega)]
      unfold dig
      rw [show W - 1 - j = k by omega]
    · rw [if_neg e]
      by_cases h : W ≤ j + k
      · rw [if_pos h, if_pos (by omega)]
      · rw [if_neg h, if_neg (by omega)]

theorem div_zero_of (N k m : Nat) (h : N / 10 ^ k = 0) (hm : k ≤ m) : N / 10 ^ m = 0 := by
  have hp : 0 < 10 ^ k := Nat.pow_pos (by omega)
  have h1 : N < 10 ^ k := by
    rcases Nat.div_eq_zero_iff.1 h with h | h
    · omega
    · exact h
  exact Nat.div_eq_of_lt (Nat.lt_of_lt_of_le h1 (Nat.pow_le_pow_right (by omega) hm))

theorem pad_end (N W k : Nat) (h : N / 10 ^ k = 0) : pad N W k = digs N W := by
  unfold pad digs
  apply List.map_congr_left
  intro j hj
  rw [List.mem_range] at hj
  by_cases e : W ≤ j + k
  · rw [if_pos e]
  · rw [if_neg e]
    unfold dig
    rw [div_zero_of N k (W - 1 - j) h (by omega)]
    rfl

theorem digs_bytes (N W : Nat) : ∀ z ∈ digs N W, 0 ≤ z ∧ z ≤ 255 := by
  intro z hz
  obtain ⟨j, _, rfl⟩ := List.mem_map.1 hz
  unfold dig
  omega
theorem pad_bytes (N W k : Nat) : ∀ z ∈ pad N W k, 0 ≤ z ∧ z ≤ 255 := by
  intro z hz
  obtain ⟨j, _, rfl⟩ := List.mem_map.1 hz
  split
  · unfold dig
    omega
  · omega

theorem digs_snoc (N W k : Nat) (hk : k < W) : (digs N W).take (k + 1) = (digs N W).take k ++ [dig N W k] := by
  rw [List.take_succ_eq_append_getElem (by rw [digs_length]; exact hk)]
  simp [digs]

/-- while something is left there is room -/
theorem room (N W k : Nat) (hN : N < 10 ^ W) (h : 0 < N / 10 ^ k) : k < W := by
  rcases Nat.lt_or_ge k W with h1 | h1
  · exact h1
  · rw [div_zero_of N W k (Nat.div_eq_of_lt hN) h1] at h
    omega

theorem div_step (N k : Nat) : N / 10 ^ (k + 1) = N / 10 ^ k / 10 := by
  rw [Nat.pow_succ, Nat.div_div_eq_div_mul]

theorem dig_succ (N W j : Nat) (h : j < W) : dig N (W + 1) j = dig (N / 10) W j := by
  unfold dig
  rw [show W + 1 - 1 - j = (W - 1 - j) + 1 by omega, Nat.pow_succ, Nat.mul_comm, ← Nat.div_div_eq_div_mul]

theorem dig_last (N W : Nat) : dig N (W + 1) W = 48 + ((N % 10 : Nat) : Int) := by
  unfold dig
  rw [show W + 1 - 1 - W = 0 by omega]
  simp

/-- the digits of the lesser number come first in the order of texts -/
theorem digs_less (W : Nat) : ∀ (A B : Nat), A < B → B < 10 ^ W → ∃ k0, k0 < W ∧ (∀ j, j < k0 → dig A W j = dig B W j) ∧ dig A W k0 < dig B W k0 := by
  induction W with
  | zero => intro A B h1 h2; simp at h2; omega
  | succ W ih =>
    intro A B h1 h2
    rw [Nat.pow_succ] at h2
    by_cases h : A / 10 < B / 10
    · obtain ⟨k0, hk, he, hl⟩ := ih (A / 10) (B / 10) h (by omega)
      refine ⟨k0, by omega, fun j hj => ?_, ?_⟩
      · rw [dig_succ _ _ _ (by omega), dig_succ _ _ _ (by omega)]
        exact he j hj
      · rw [dig_succ _ _ _ hk, dig_succ _ _ _ hk]
        exact hl
    · have e : A / 10 = B / 10 := by omega
      refine ⟨W, by omega, fun j hj => ?_, ?_⟩
      · rw [dig_succ _ _ _ hj, dig_succ _ _ _ hj, e]
      · rw [dig_last, dig_last]
        omega

theorem digs_get (N W j : Nat) (h : j < W) : (digs N W)[j]?.getD 0 = dig N W j := by
  simp [digs, h]

end Go.Proofs.Qxb6601495a
