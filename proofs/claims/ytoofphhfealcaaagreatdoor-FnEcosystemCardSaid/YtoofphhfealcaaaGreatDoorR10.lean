/-
  WALKS: greaterThan; PLAIN LAWS: the steps of the refinement of a quotient's guess.
-/
import Derived.Test.YtoofphhfealcaaaGreatDoorR9
namespace Go.Proofs.YtoofphhfealcaaaGreatDoor
open Go.RowKit

theorem two_lt {x1 x2 y1 y2 : Int} (hx0 : 0 ≤ x2) (hx : x2 < BW) (hy0 : 0 ≤ y2) (hy : y2 < BW) : (y1 * BW + y2 < x1 * BW + x2) ↔ (y1 < x1 ∨ (x1 = y1 ∧ y2 < x2)) := by
  constructor
  · intro h
    rcases Int.lt_trichotomy y1 x1 with h1 | h1 | h1
    · exact .inl h1
    · subst h1
      exact .inr ⟨rfl, by omega⟩
    · exfalso
      have : (x1 + 1) * BW ≤ y1 * BW := Int.mul_le_mul_of_nonneg_right (by omega) (Int.le_of_lt bw_pos)
      rw [Int.add_mul, Int.one_mul] at this
      omega
  · rintro (h | ⟨rfl, h⟩)
    · have : (y1 + 1) * BW ≤ x1 * BW := Int.mul_le_mul_of_nonneg_right (by omega) (Int.le_of_lt bw_pos)
      rw [Int.add_mul, Int.one_mul] at this
      omega
    · omega
theorem greater_any (x1 x2 y1 y2 : Int) (b : Bool) (w : World) (hx0 : 0 ≤ x2) (hx : x2 < BW) (hy0 : 0 ≤ y2) (hy : y2 < BW) (hb : b = decide (y1 * BW + y2 < x1 * BW + x2)) :
    Calls Tryz.prog 271 #[.int .u64 x1, .int .u64 x2, .int .u64 y1, .int .u64 y2] w fun e w' => e = .returned (.bool b) ∧ w = w' := by
  have h := two_lt (x1 := x1) (y1 := y1) hx0 hx hy0 hy
  rcases Int.lt_trichotomy y1 x1 with h1 | h1 | h1
  · have hd : decide (y1 < x1) = true := by simpa using h1
    have : b = true := by rw [hb]; simp; exact h.2 (.inl h1)
    subst this
    clear h hb
    go_enter Tryz.func271, Tryz.ntmps271
    go_wp2
    go_ret
    exact ⟨rfl, rfl⟩
  · subst h1
    have hd : decide (y1 < y1) = false := by simp
    by_cases h2 : y2 < x2
    · have hd2 : decide (y2 < x2) = true := by simpa using h2
      have : b = true := by rw [hb]; simpa using h2
      subst this
      clear h hb
      go_enter Tryz.func271, Tryz.ntmps271
      go_wp2
      go_ret
      exact ⟨rfl, rfl⟩
    · have hd2 : decide (y2 < x2) = false := by simpa using h2
      have : b = false := by rw [hb]; simp; omega
      subst this
      clear h hb
      go_enter Tryz.func271, Tryz.ntmps271
      go_wp2
      go_ret
      exact ⟨rfl, rfl⟩
  · have hd : decide (y1 < x1) = false := by simp; omega
    have hd2 : ((x1 : Int) == y1) = false := by rw [beq_eq_false_iff_ne]; omega
    have : b = false := by
      rw [hb]
      simp only [decide_eq_false_iff_not]
      intro h3
      rcases h.1 h3 with h4 | h4 <;> omega
    subst this
    clear h hb
    go_enter Tryz.func271, Tryz.ntmps271
    go_wp2
    go_ret
    exact ⟨rfl, rfl⟩

/-- The product with one less. -/
theorem prod_pred (qh v x1 x2 : Int) (hq : 1 ≤ qh) (hqB : qh < BW) (hv0 : 0 ≤ v) (hv : v < BW) (h1 : mHi qh v 0 = x1) (h2 : mLo qh v 0 = x2) :
    (x2 < v → mHi (qh - 1) v 0 = x1 - 1 ∧ mLo (qh - 1) v 0 = x2 - v + BW ∧ 1 ≤ x1) ∧ (v ≤ x2 → mHi (qh - 1) v 0 = x1 ∧ mLo (qh - 1) v 0 = x2 - v) := by
  have a := mLoHi qh v 0
  have b := mLoHi (qh - 1) v 0
  have c := mLo_rng qh v 0
  have d := mLo_rng (qh - 1) v 0
  have e := mHi_rng (qh - 1) v 0 (by omega) (by omega) hv0 hv (by omega) bw_pos
  rw [h1, h2] at a
  rw [h2] at c
  have f : (qh - 1) * v = qh * v - v := by grind
  rw [f] at b
  generalize mHi (qh - 1) v 0 = y1 at *
  generalize mLo (qh - 1) v 0 = y2 at *
  unfold BW at *
  constructor
  · intro h
    omega
  · intro h
    omega

section
/-- What holds at each step of the refinement. -/
structure Rf (V S : List Int) (k : Nat) (hV : V.length = k + 2) (hS : S.length = k + 3) (qh rh : Int) : Prop where
  ge : qd V S ≤ qh
  q0 : 0 ≤ qh
  q1 : qh < BW
  r0 : 0 ≤ rh
  r1 : rh < BW
  eq : qh * V[k + 1] + rh = S[k + 2] * BW + S[k + 1]
variable {V S : List Int} {k : Nat} {hV : V.length = k + 2} {hS : S.length = k + 3} {qh rh : Int}
theorem rf_start (h : Gs V S k hV hS) (hlt : S[k + 2] < V[k + 1]) : Rf V S k hV hS ((S[k + 2] * BW + S[k + 1]) / V[k + 1]) ((S[k + 2] * BW + S[k + 1]) % V[k + 1]) := by
  obtain ⟨a, b, c⟩ := gs_init h hlt
  have hv := words_get h.wV (k + 1) (by omega)
  have hs := words_get h.wS (k + 2) (by omega)
  have hp : 0 < V[k + 1] := by omega
  refine ⟨a, c, b, Int.emod_nonneg _ (by omega), ?_, ?_⟩
  · have := Int.emod_lt_of_pos (S[k + 2] * BW + S[k + 1]) hp
    omega
  · rw [Int.mul_comm]
    exact Int.mul_ediv_add_emod _ _
/-- The test: the guess times the divisor's two words against the three words. -/
theorem rf_test (h : Rf V S k hV hS qh rh) : (rh * BW + S[k] < qh * V[k]) ↔ ((S[k + 2] * BW + S[k + 1]) * BW + S[k] < qh * (V[k + 1] * BW + V[k])) := by
  have e : qh * (V[k + 1] * BW + V[k]) = (S[k + 2] * BW + S[k + 1] - rh) * BW + qh * V[k] := by rw [← h.eq]; grind
  rw [e]
  have e2 : (S[k + 2] * BW + S[k + 1] - rh) * BW = (S[k + 2] * BW + S[k + 1]) * BW - rh * BW := Int.sub_mul _ _ _
  rw [e2]
  generalize (S[k + 2] * BW + S[k + 1]) * BW = A
  generalize rh * BW = B
  omega
/-- The refinement ends with a guess that is at most one too great. -/
theorem rf_done (hg : Gs V S k hV hS) (h : Rf V S k hV hS qh rh) (ht : ¬ rh * BW + S[k] < qh * V[k]) : qh ≤ qd V S + 1 :=
  gs_le hg qh h.q0 h.q1 (by have := mt (rf_test h).2 ht; omega)
/-- One step: the guess is one less. -/
theorem rf_step (hg : Gs V S k hV hS) (h : Rf V S k hV hS qh rh) (ht : rh * BW + S[k] < qh * V[k]) :
    1 ≤ qh ∧ qd V S ≤ qh - 1 ∧ (rh + V[k + 1] < BW → Rf V S k hV hS (qh - 1) (rh + V[k + 1])) ∧ (BW ≤ rh + V[k + 1] → qh - 1 ≤ qd V S + 1) := by
  have h1 := gs_ge hg qh ((rf_test h).1 ht)
  have h0 := (gs_q hg).1
  have hv := words_get hg.wV (k + 1) (by omega)
  have hv2 := words_get hg.wV k (by omega)
  have hs := words_get hg.wS k (by omega)
  have e : (qh - 1) * V[k + 1] + (rh + V[k + 1]) = S[k + 2] * BW + S[k + 1] := by rw [← h.eq]; grind
  have hq1 := h.q1
  refine ⟨by omega, by omega, fun hlt => ⟨by omega, by omega, by omega, by have := h.r0; omega, hlt, e⟩, fun hge => ?_⟩
  refine gs_le hg (qh - 1) (by omega) (by omega) ?_
  have a1 : (qh - 1) * V[k] ≤ BW * BW := Int.mul_le_mul (by omega) (by omega) hv2.1 (by have := bw_pos; omega)
  have a2 : BW * BW ≤ (rh + V[k + 1]) * BW := Int.mul_le_mul_of_nonneg_right hge (Int.le_of_lt bw_pos)
  have e2 : (qh - 1) * (V[k + 1] * BW + V[k]) = (S[k + 2] * BW + S[k + 1]) * BW - (rh + V[k + 1]) * BW + (qh - 1) * V[k] := by rw [← e]; grind
  rw [e2]
  generalize (S[k + 2] * BW + S[k + 1]) * BW = A at *
  generalize (rh + V[k + 1]) * BW = B at *
  generalize (qh - 1) * V[k] = C at *
  generalize BW * BW = D at *
  omega
end
end Go.Proofs.YtoofphhfealcaaaGreatDoor
