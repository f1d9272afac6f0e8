import Derived.Test.Qxb6604639aShift
namespace Go.Proofs.Qxb6604639a
open Go.RowKit

def cap (x : Int) : Int := if x ≤ 32000000000 then x else 32000000000

/-- How tryAfter stands behind k batches, L being the last that reset it (-1: none). -/
def TI (t : Int) (k : Nat) (L T : Int) : Prop :=
  (L = -1 ∧ ((k = 0 ∧ T = t) ∨ (0 < k ∧ 0 < t ∧ T = cap (t * 2 ^ k)))) ∨ (∃ m : Nat, L = m ∧ m < k ∧ T = cap (1000000000 * 2 ^ (k - 1 - m)))

theorem ti_start (t : Int) : TI t 0 (-1) t := .inl ⟨rfl, .inl ⟨rfl, rfl⟩⟩
theorem pow_pos2 (k : Nat) : (1 : Int) ≤ 2 ^ k := Int.pow_pos (by decide)
theorem cap_bd (x : Int) (h : 0 < x) : 0 < cap x ∧ cap x ≤ 32000000000 := by unfold cap; split <;> omega
theorem cap_two (x : Int) (_h : 0 < x) : cap (2 * cap x) = cap (2 * x) := by
  unfold cap; split <;> split <;> (try split) <;> omega
theorem mul_two_out (x y : Int) : x * (y * 2) = 2 * (x * y) := by rw [← Int.mul_assoc, Int.mul_comm]
theorem mul_pos2 (t : Int) (k : Nat) (h : 0 < t) : 0 < t * 2 ^ k := Int.mul_pos h (Int.pow_pos (by decide))

theorem ti_bd {t : Int} {k : Nat} {L T : Int} (h : TI t k L T) (h0 : 0 ≤ t) (h1 : t ≤ 4611686018427387903) : 0 ≤ T ∧ T ≤ 4611686018427387903 ∧ (T = 0 → k = 0 ∧ t = 0) ∧ -1 ≤ L ∧ L < k ∧ (k = 0 → T = t) := by
  rcases h with ⟨rfl, ⟨rfl, rfl⟩ | ⟨hk, ht, rfl⟩⟩ | ⟨m, rfl, hm, rfl⟩
  · exact ⟨h0, h1, fun h => ⟨rfl, h⟩, by omega, by omega, fun _ => rfl⟩
  · have := cap_bd _ (mul_pos2 t k ht)
    exact ⟨by omega, by omega, fun h => by omega, by omega, by omega, fun h => by omega⟩
  · have := cap_bd _ (mul_pos2 1000000000 (k - 1 - m) (by decide))
    exact ⟨by omega, by omega, fun h => by omega, by omega, by omega, fun h => by omega⟩

/-- A batch that resets. -/
theorem ti_reset {t : Int} {k : Nat} : TI t (k + 1) k 1000000000 := by
  refine .inr ⟨k, rfl, by omega, ?_⟩
  have e : k + 1 - 1 - k = 0 := by omega
  rw [e]; decide
/-- A batch that doubles. -/
theorem ti_more {t : Int} {k : Nat} {L T : Int} (h : TI t k L T) (h0 : 0 ≤ t) (h1 : t ≤ 4611686018427387903) (hn : ¬ T = 0) : TI t (k + 1) L (cap (2 * T)) := by
  rcases h with ⟨rfl, ⟨rfl, rfl⟩ | ⟨hk, ht, rfl⟩⟩ | ⟨m, rfl, hm, rfl⟩
  · refine .inl ⟨rfl, .inr ⟨by omega, by omega, ?_⟩⟩
    rw [show T * 2 ^ (0 + 1) = 2 * T by simp; omega]
  · refine .inl ⟨rfl, .inr ⟨by omega, ht, ?_⟩⟩
    rw [cap_two _ (mul_pos2 t k ht), Int.pow_succ, mul_two_out]
  · refine .inr ⟨m, rfl, by omega, ?_⟩
    rw [cap_two _ (mul_pos2 1000000000 (k - 1 - m) (by decide))]
    have e : k + 1 - 1 - m = (k - 1 - m) + 1 := by omega
    rw [e, Int.pow_succ, mul_two_out]

theorem nextTry_reset (s now t : Int) (h : t = 0 ∨ 1000000000 ≤ now - s) : nextTry s now t = 1000000000 := by
  unfold nextTry; rw [if_pos h]
theorem nextTry_more (s now t : Int) (h0 : 0 ≤ t) (h1 : t ≤ 4611686018427387903) (h : ¬ (t = 0 ∨ 1000000000 ≤ now - s)) : nextTry s now t = cap (2 * t) := by
  unfold nextTry cap
  have e : wrap64 (2 * t) = 2 * t := by unfold wrap64; omega
  rw [if_neg h, e]

/-! ### The end -/
theorem pow_mono2 {a b : Nat} (h : a ≤ b) : (2 : Int) ^ a ≤ 2 ^ b := by
  obtain ⟨k, rfl⟩ := Nat.exists_eq_add_of_le h
  induction k with
  | zero => exact Int.le_refl _
  | succ k ih =>
    have := ih (by omega)
    rw [← Nat.add_assoc, Int.pow_succ]
    have h0 : (0 : Int) ≤ 2 ^ (a + k) := Int.pow_nonneg (by decide)
    omega
theorem cap_hi (x : Int) (h : 32000000000 ≤ x) : cap x = 32000000000 := by unfold cap; split <;> omega
theorem cap_lo (x : Int) (h : x ≤ 32000000000) : cap x = x := by unfold cap; rw [if_pos h]
/-- The last reset lies five batches back or more. -/
theorem end_far (j : Nat) (h : 5 ≤ j) : cap (1000000000 * 2 ^ j) = 32000000000 := by
  apply cap_hi
  have := pow_mono2 h
  have e : (2 : Int) ^ 5 = 32 := by decide
  omega
theorem end_near (j : Nat) (h : j < 5) : cap (1000000000 * 2 ^ j) = 1000000000 * 2 ^ j := by
  apply cap_lo
  have := pow_mono2 (show j ≤ 4 by omega)
  have e : (2 : Int) ^ 4 = 16 := by decide
  omega
theorem end_long (t : Int) (n : Nat) (ht : 0 < t) (h : 36 ≤ n) : cap (t * 2 ^ n) = 32000000000 := by
  apply cap_hi
  have := pow_mono2 h
  have e : (2 : Int) ^ 36 = 68719476736 := by decide
  have : 1 * (2 : Int) ^ n ≤ t * 2 ^ n := Int.mul_le_mul_of_nonneg_right (by omega) (Int.pow_nonneg (by decide))
  omega
theorem end_big (t : Int) (n : Nat) (h : 32000000000 / 2 ^ n < t) : cap (t * 2 ^ n) = 32000000000 := by
  apply cap_hi
  have hp : (0 : Int) < 2 ^ n := Int.pow_pos (by decide)
  have := (Int.ediv_lt_iff_lt_mul hp).1 h
  omega
theorem end_small (t : Int) (n : Nat) (h : t ≤ 32000000000 / 2 ^ n) : cap (t * 2 ^ n) = t * 2 ^ n := by
  apply cap_lo
  have hp : (0 : Int) < 2 ^ n := Int.pow_pos (by decide)
  exact (Int.le_ediv_iff_mul_le hp).1 h
end Go.Proofs.Qxb6604639a
