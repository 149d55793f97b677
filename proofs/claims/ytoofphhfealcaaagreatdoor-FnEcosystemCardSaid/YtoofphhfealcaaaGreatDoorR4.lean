/-
  WALKS: divWW at a divisor of which the top bit stands.
-/
import Derived.Test.YtoofphhfealcaaaGreatDoorQ1
import Derived.Test.YtoofphhfealcaaaGreatDoorQ2
import Derived.Test.YtoofphhfealcaaaGreatDoorR3
namespace Go.Proofs.YtoofphhfealcaaaGreatDoor
open Go.RowKit

/-- m is the reciprocal of d. -/
structure Rec (d m : Int) : Prop where
  top : 9223372036854775808 ≤ d
  lt : d < BW
  m0 : 0 ≤ m
  m1 : m < BW
  eq : ∃ e, (m + BW) * d + e + 1 = BW * BW ∧ 0 ≤ e ∧ e < d
theorem dw_words (d m x1 x0 : Int) (h : Rec d m) (hx1 : 0 ≤ x1) (hx1d : x1 < d) (hx0 : 0 ≤ x0) (hx0B : x0 < BW) :
    ∃ qq R, aLo (mHi m x1 0) x1 (aHi (mLo m x1 0) x0 0) = qq ∧ 0 ≤ qq ∧ qq < BW ∧ sLo x0 (mLo d qq 0) 0 = R % BW ∧ sLo x1 (mHi d qq 0) (sHi x0 (mLo d qq 0) 0) = R / BW ∧ 0 ≤ R ∧ R < BW + d ∧ x1 * BW + x0 = d * qq + R := by
  obtain ⟨e, he, e0, e1⟩ := h.eq
  have hd := h.lt
  have htop := h.top
  have hm0 := h.m0
  have hm1 := h.m1
  have hb := bw_pos
  have a1 := mLoHi m x1 0
  have a2 := aLoHi (mLo m x1 0) x0 0
  have a3 := mHi_rng m x1 0 hm0 hm1 hx1 (by omega) (by omega) hb
  have a4 := mLo_rng m x1 0
  have a5 := aLo_rng (mLo m x1 0) x0 0
  have a6 := aHi_rng (mLo m x1 0) x0 0 a4.1 a4.2 hx0 hx0B (by omega) (by omega)
  have hX : (m + BW) * x1 + x0 = BW * (mHi m x1 0 + x1 + aHi (mLo m x1 0) x0 0) + aLo (mLo m x1 0) x0 0 := by grind
  have hlt : mHi m x1 0 + x1 + aHi (mLo m x1 0) x0 0 < BW := by
    have h1 : (m + BW) * x1 ≤ (m + BW) * (d - 1) := Int.mul_le_mul_of_nonneg_left (by omega) (by omega)
    have h2 : (m + BW) * (d - 1) = (m + BW) * d - (m + BW) := by grind
    refine Int.lt_of_mul_lt_mul_left (a := BW) ?_ (by omega)
    omega
  have hq0 : 0 ≤ mHi m x1 0 + x1 + aHi (mLo m x1 0) x0 0 := by omega
  have hqq : aLo (mHi m x1 0) x1 (aHi (mLo m x1 0) x0 0) = mHi m x1 0 + x1 + aHi (mLo m x1 0) x0 0 := by
    unfold aLo
    rw [Int.emod_eq_of_lt (by omega) hlt]
  have hr := dw_r BW d m x1 x0 e _ _ he e0 e1 hd hx1 hx1d hx0 hx0B hX a5.1 a5.2
  refine ⟨_, x1 * BW + x0 - d * (mHi m x1 0 + x1 + aHi (mLo m x1 0) x0 0), hqq, by omega, hlt, ?_, ?_, hr.1, hr.2, by omega⟩
  all_goals
    generalize mHi m x1 0 + x1 + aHi (mLo m x1 0) x0 0 = qq at *
    have b1 := mLoHi d qq 0
    have b2 := mLo_rng d qq 0
    have b3 := sLoHi x0 (mLo d qq 0) 0 hx0 hx0B b2.1 b2.2 (by omega) (by omega)
    have b4 := sLo_rng x0 (mLo d qq 0) 0
    have b5 := sHi_rng x0 (mLo d qq 0) 0
    have b6 := mHi_rng d qq 0 (by omega) hd hq0 hlt (by omega) hb
    rw [Int.add_zero] at b1
    rw [← b1] at hr ⊢
    generalize mLo d qq 0 = dq0 at *
    generalize mHi d qq 0 = dq1 at *
    generalize sHi x0 dq0 0 = bb at *
    generalize sLo x0 dq0 0 = r0 at *
  · have e2 : x1 * BW + x0 - (dq0 + BW * dq1) = r0 + BW * (x1 - dq1 - bb) := by grind
    rw [e2, Int.add_mul_emod_self_left, Int.emod_eq_of_lt b4.1 b4.2]
  · have e2 : x1 * BW + x0 - (dq0 + BW * dq1) = r0 + BW * (x1 - dq1 - bb) := by grind
    rw [e2] at hr ⊢
    rw [Int.add_mul_ediv_left _ _ (by omega), Int.ediv_eq_zero_of_lt b4.1 b4.2, Int.zero_add]
    have h1 : 0 ≤ x1 - dq1 - bb := by
      refine Classical.byContradiction fun hc => ?_
      have : BW * (x1 - dq1 - bb) ≤ BW * (-1) := Int.mul_le_mul_of_nonneg_left (by omega) (by omega)
      omega
    unfold sLo
    rw [Int.emod_eq_of_lt h1 (by omega)]
theorem wrap_lt (x : Int) (h0 : 0 ≤ x) (h : x < BW) : IntKind.u64.wrap x = x := by
  rw [IntKind.wrap_u64]
  unfold BW at h
  omega
/-- The calls of divWW, their answers as variables. -/
theorem dw_calls (x1 x0 d m : Int) (h : Rec d m) (hx1 : 0 ≤ x1) (hx1d : x1 < d) (hx0 : 0 ≤ x0) (hx0B : x0 < BW) :
    ∃ t1 t0 f c qq c2 dq1 dq0 rl b rh b2 : Int,
      (∀ w, Calls Tryz.prog 227 #[.int .u64 m, .int .u64 x1] w fun e w' => e = .returned (.tuple #[.int .u64 t1, .int .u64 t0]) ∧ w = w') ∧
      (∀ w, Calls Tryz.prog 242 #[.int .u64 t0, .int .u64 x0, .int .u64 0] w fun e w' => e = .returned (.tuple #[.int .u64 f, .int .u64 c]) ∧ w = w') ∧
      (∀ w, Calls Tryz.prog 242 #[.int .u64 t1, .int .u64 x1, .int .u64 c] w fun e w' => e = .returned (.tuple #[.int .u64 qq, .int .u64 c2]) ∧ w = w') ∧
      (∀ w, Calls Tryz.prog 227 #[.int .u64 d, .int .u64 qq] w fun e w' => e = .returned (.tuple #[.int .u64 dq1, .int .u64 dq0]) ∧ w = w') ∧
      (∀ w, Calls Tryz.prog 275 #[.int .u64 x0, .int .u64 dq0, .int .u64 0] w fun e w' => e = .returned (.tuple #[.int .u64 rl, .int .u64 b]) ∧ w = w') ∧
      (∀ w, Calls Tryz.prog 275 #[.int .u64 x1, .int .u64 dq1, .int .u64 b] w fun e w' => e = .returned (.tuple #[.int .u64 rh, .int .u64 b2]) ∧ w = w') ∧
      ((rh = 0 ∧ 0 ≤ rl ∧ rl < BW ∧ x1 * BW + x0 = d * qq + rl) ∨ (rh = 1 ∧ 0 ≤ rl ∧ rl < d ∧ x1 * BW + x0 = d * qq + (rl + BW))) ∧ 0 ≤ qq ∧ qq < BW := by
  obtain ⟨qq, R, e1, q0, q1, e2, e3, r0, r1, hX⟩ := dw_words d m x1 x0 h hx1 hx1d hx0 hx0B
  have a4 := mLo_rng m x1 0
  have a6 := aHi_rng (mLo m x1 0) x0 0 a4.1 a4.2 hx0 hx0B (by omega) (by omega)
  have a3 := mHi_rng m x1 0 h.m0 h.m1 hx1 (by have := h.lt; omega) (by omega) bw_pos
  have b2 := mLo_rng d qq 0
  have b5 := sHi_rng x0 (mLo d qq 0) 0
  have b6 := mHi_rng d qq 0 (by have := h.top; omega) h.lt q0 q1 (by omega) bw_pos
  refine ⟨mHi m x1 0, mLo m x1 0, aLo (mLo m x1 0) x0 0, aHi (mLo m x1 0) x0 0, qq, aHi (mHi m x1 0) x1 (aHi (mLo m x1 0) x0 0), mHi d qq 0, mLo d qq 0, R % BW, sHi x0 (mLo d qq 0) 0, R / BW, sHi x1 (mHi d qq 0) (sHi x0 (mLo d qq 0) 0),
    fun w => bits_Mul m x1 w h.m0 h.m1 hx1 (by have := h.lt; omega), fun w => bits_Add _ _ _ w a4.1 hx0 (by omega) (by omega), fun w => ?_, fun w => bits_Mul d qq w (by have := h.top; omega) h.lt q0 q1, fun w => ?_, fun w => ?_, ?_, q0, q1⟩
  · have := bits_Add (mHi m x1 0) x1 (aHi (mLo m x1 0) x0 0) w a3.1 hx1 a6.1 a6.2
    rw [e1] at this
    exact this
  · have := bits_Sub x0 (mLo d qq 0) 0 w hx0 b2.1 b2.2 (by omega) (by omega)
    rw [e2] at this
    exact this
  · have := bits_Sub x1 (mHi d qq 0) (sHi x0 (mLo d qq 0) 0) w hx1 b6.1 b6.2 b5.1 b5.2
    rw [e3] at this
    exact this
  · have hlt := h.lt
    have hb := bw_pos
    have e : R = R % BW + BW * (R / BW) := (Int.emod_add_mul_ediv R BW).symm
    have h0 := Int.emod_nonneg R (show BW ≠ 0 by omega)
    have h1 := Int.emod_lt_of_pos R hb
    have h2 : R / BW = 0 ∨ R / BW = 1 := by
      have a : 0 ≤ R / BW := Int.ediv_nonneg r0 (by omega)
      have b : R / BW < 2 := Int.ediv_lt_of_lt_mul hb (by omega)
      omega
    rcases h2 with h2 | h2
    · rw [h2] at e
      exact .inl ⟨h2, h0, h1, by omega⟩
    · rw [h2] at e
      exact .inr ⟨h2, h0, by omega, by omega⟩
set_option maxRecDepth 100000 in
set_option maxHeartbeats 4000000 in
theorem divWW_any (x1 x0 d m : Int) (w : World) (h : Rec d m) (hx1 : 0 ≤ x1) (hx1d : x1 < d) (hx0 : 0 ≤ x0) (hx0B : x0 < BW) :
    Calls Tryz.prog 241 #[.int .u64 x1, .int .u64 x0, .int .u64 d, .int .u64 m] w fun e w' => e = .returned (.tuple #[.int .u64 ((x1 * BW + x0) / d), .int .u64 ((x1 * BW + x0) % d)]) ∧ w' = w := by
  obtain ⟨t1, t0, f, c, qq, c2, dq1, dq0, rl, b, rh, b2, C1, C2, C3, C4, C5, C6, hR, q0, q1⟩ := dw_calls x1 x0 d m h hx1 hx1d hx0 hx0B
  have C0 := fun w => nlz_top d w h.top h.lt
  have hqd : (x1 * BW + x0) / d < BW := by
    refine Int.ediv_lt_of_lt_mul (by have := h.top; omega) ?_
    have : (x1 + 1) * BW ≤ d * BW := Int.mul_le_mul_of_nonneg_right (by omega) (by have := bw_pos; omega)
    have e : (x1 + 1) * BW = x1 * BW + BW := by grind
    have e2 : BW * d = d * BW := Int.mul_comm _ _
    omega
  have hB2 : BW ≤ 2 * d := by have := h.top; unfold BW; omega
  have hdl := h.lt
  have C0 := Lib.hid C0; have C1 := Lib.hid C1; have C2 := Lib.hid C2; have C3 := Lib.hid C3; have C4 := Lib.hid C4; have C5 := Lib.hid C5; have C6 := Lib.hid C6
  have HQD := Lib.hid hqd
  have HB2 := Lib.hid hB2
  have HDL := Lib.hid hdl
  clear h hqd hB2 hdl
  generalize hQU : (x1 * BW + x0) / d = QU at *
  generalize hRE : (x1 * BW + x0) % d = RE at *
  have HQU := Lib.hid hQU; have HRE := Lib.hid hRE; have HR := Lib.hid hR
  clear hQU hRE hR
  go_enter Tryz.func241, Tryz.ntmps241
  go_upto_region 8 with (first
    | (go_at_call 225; refine (C0.out _).mono ?_; rintro e w' ⟨rfl, rfl⟩)
    | (go_at_call 227; refine (C1.out _).mono ?_; rintro e w' ⟨rfl, rfl⟩))
  go_upto_region 9 with (go_at_call 242; refine (C2.out _).mono ?_; rintro e w' ⟨rfl, rfl⟩)
  go_upto_region 10 with (go_at_call 242; refine (C3.out _).mono ?_; rintro e w' ⟨rfl, rfl⟩)
  go_upto_region 12 with (go_at_call 227; refine (C4.out _).mono ?_; rintro e w' ⟨rfl, rfl⟩)
  go_upto_region 13 with (go_at_call 275; refine (C5.out _).mono ?_; rintro e w' ⟨rfl, rfl⟩)
  go_upto_region 14 with (go_at_call 275; refine (C6.out _).mono ?_; rintro e w' ⟨rfl, rfl⟩)
  clear C0 C1 C2 C3 C4 C5 C6
  have HD63 := HB2.out
  have HDB := HDL.out
  have HQQ := HQD.out
  rcases HR.out with ⟨rfl, h1, h2, h3⟩ | ⟨rfl, h1, h2, h3⟩
  · by_cases hge : d ≤ rl
    · obtain ⟨ea, eb⟩ := dm_eq (x1 * BW + x0) d (qq + 1) (rl - d) (by rw [h3]; grind) (by omega) (by omega)
      rw [HQU.out] at ea
      rw [HRE.out] at eb
      have EA : Hid (IntKind.u64.wrap (qq + 1) = QU) := by show _ = _; rw [wrap_lt _ (by omega) (by omega), ea]
      have EB : Hid (IntKind.u64.wrap (rl - d) = RE) := by show _ = _; rw [wrap_lt _ (by omega) (by omega), eb]
      clear h3 ea eb HD63 HDB HQQ
      go_wp2_with fail
      go_ret2
      exact ⟨by rw [EA.out, EB.out]; rfl, rfl⟩
    · obtain ⟨ea, eb⟩ := dm_eq (x1 * BW + x0) d qq rl h3 (by omega) (by omega)
      rw [HQU.out] at ea
      rw [HRE.out] at eb
      subst ea eb
      clear h3 HD63 HDB HQQ
      go_wp2_with fail
      go_ret2
      exact ⟨rfl, rfl⟩
  · have hrl : IntKind.u64.wrap (rl - d) = rl - d + BW := by
      rw [IntKind.wrap_u64]
      unfold BW at *
      omega
    obtain ⟨r2, hr2⟩ : ∃ r2, r2 = rl - d + BW := ⟨_, rfl⟩
    rw [← hr2] at hrl
    by_cases hge : d ≤ r2
    · obtain ⟨ea, eb⟩ := dm_eq (x1 * BW + x0) d (qq + 2) (r2 - d) (by rw [h3, hr2]; grind) (by omega) (by omega)
      rw [HQU.out] at ea
      rw [HRE.out] at eb
      have EA : Hid (IntKind.u64.wrap (IntKind.u64.wrap (qq + 1) + 1) = QU) := by show _ = _; rw [wrap_lt (qq + 1) (by omega) (by omega), wrap_lt _ (by omega) (by omega), ea]; omega
      have EB : Hid (IntKind.u64.wrap (r2 - d) = RE) := by show _ = _; rw [wrap_lt _ (by omega) (by omega), eb]
      clear h3 ea eb HD63 HDB HQQ hr2 h2
      go_wp2_with fail
      go_ret2
      exact ⟨by rw [EA.out, EB.out]; rfl, rfl⟩
    · obtain ⟨ea, eb⟩ := dm_eq (x1 * BW + x0) d (qq + 1) r2 (by rw [h3, hr2]; grind) (by omega) (by omega)
      rw [HQU.out] at ea
      rw [HRE.out] at eb
      have EA : Hid (IntKind.u64.wrap (qq + 1) = QU) := by show _ = _; rw [wrap_lt _ (by omega) (by omega), ea]
      subst eb
      clear h3 ea HD63 HDB HQQ hr2 h2
      go_wp2_with fail
      go_ret2
      exact ⟨by rw [EA.out]; rfl, rfl⟩
end Go.Proofs.YtoofphhfealcaaaGreatDoor
