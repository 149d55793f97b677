/-
  PLAIN LAWS: division by words.
-/
import Derived.Test.YtoofphhfealcaaaGreatDoorC3
namespace Go.Proofs.YtoofphhfealcaaaGreatDoor
open Go.RowKit

theorem dw_r (B d m x1 x0 e qq f : Int) (hM : (m + B) * d + e + 1 = B * B) (he0 : 0 ≤ e) (he : e < d) (hd : d < B) (hx1 : 0 ≤ x1) (hx1d : x1 < d) (hx0 : 0 ≤ x0) (hx0B : x0 < B) (hq : (m + B) * x1 + x0 = B * qq + f) (hf0 : 0 ≤ f) (hf : f < B) :
    0 ≤ x1 * B + x0 - d * qq ∧ x1 * B + x0 - d * qq < B + d := by
  have key : B * (x1 * B + x0 - d * qq) = x1 * (1 + e) + x0 * (B - d) + d * f := by grind
  have p1 : 0 ≤ x1 * (1 + e) := Int.mul_nonneg hx1 (by omega)
  have p2 : 0 ≤ x0 * (B - d) := Int.mul_nonneg hx0 (by omega)
  have p3 : 0 ≤ d * f := Int.mul_nonneg (by omega) hf0
  have q1 : x1 * (1 + e) ≤ (d - 1) * B := Int.mul_le_mul (by omega) (by omega) (by omega) (by omega)
  have q2 : x0 * (B - d) ≤ (B - 1) * (B - d) := Int.mul_le_mul_of_nonneg_right (by omega) (by omega)
  have q3 : d * f ≤ d * (B - 1) := Int.mul_le_mul_of_nonneg_left (by omega) (by omega)
  have s1 : (d - 1) * B + (B - 1) * (B - d) + d * (B - 1) = B * (B + d) - 2 * B := by grind
  refine ⟨Int.le_of_mul_le_mul_left (a := B) (by rw [key, Int.mul_zero]; omega) (by omega), Int.lt_of_mul_lt_mul_left (a := B) (by rw [key]; omega) (by omega)⟩
/-- The quotient and the rest, once a rest within bounds is known. -/
theorem dm_eq (X d q r : Int) (h : X = d * q + r) (h0 : 0 ≤ r) (h1 : r < d) : X / d = q ∧ X % d = r := by
  have hd : 0 < d := by omega
  have e1 : X / d = q := by
    rw [h, Int.add_comm, Int.add_mul_ediv_left r q (by omega), Int.ediv_eq_zero_of_lt h0 h1, Int.zero_add]
  refine ⟨e1, ?_⟩
  have := Int.mul_ediv_add_emod X d
  rw [e1] at this
  omega
/-- The corrections: at most two. -/
theorem dw_fin (B d X qq r : Int) (hX : X = d * qq + r) (h0 : 0 ≤ r) (h1 : r < B + d) (hd : d < B) (h2 : B ≤ 2 * d) :
    (B ≤ r → X / d = qq + (if d ≤ r - d then 2 else 1) ∧ X % d = r - d - (if d ≤ r - d then d else 0)) ∧ (r < B → X / d = qq + (if d ≤ r then 1 else 0) ∧ X % d = r - (if d ≤ r then d else 0)) := by
  constructor
  · intro hB
    split
    · exact dm_eq X d (qq + 2) (r - d - d) (by grind) (by omega) (by omega)
    · exact dm_eq X d (qq + 1) (r - d - 0) (by grind) (by omega) (by omega)
  · intro hB
    split
    · exact dm_eq X d (qq + 1) (r - d) (by grind) (by omega) (by omega)
    · exact dm_eq X d (qq + 0) (r - 0) (by grind) (by omega) (by omega)
end Go.Proofs.YtoofphhfealcaaaGreatDoor
