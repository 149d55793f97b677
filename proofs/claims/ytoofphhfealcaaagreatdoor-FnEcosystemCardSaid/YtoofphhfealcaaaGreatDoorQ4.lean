/-
  PLAIN LAWS: one step of the long division (Knuth's D).
-/
import Derived.Test.YtoofphhfealcaaaGreatDoorQ3
namespace Go.Proofs.YtoofphhfealcaaaGreatDoor
open Go.RowKit

theorem kn_ge (P V2 vl U3 sl v S q qh : Int) (hP : 0 < P) (hv : v = V2 * P + vl) (hvl : 0 ≤ vl) (hV2 : 0 ≤ V2) (hS : S = U3 * P + sl) (hsl : sl < P) (hq0 : 0 ≤ q) (hq : q * v ≤ S) (h : U3 < qh * V2) : q < qh := by
  refine Classical.byContradiction fun hc => ?_
  have h1 : qh * V2 ≤ q * V2 := Int.mul_le_mul_of_nonneg_right (by omega) hV2
  have h2 : (U3 + 1) * P ≤ q * V2 * P := Int.mul_le_mul_of_nonneg_right (by omega) (by omega)
  have h3 : 0 ≤ q * vl := Int.mul_nonneg hq0 hvl
  have h4 : q * v = q * V2 * P + q * vl := by grind
  have h5 : (U3 + 1) * P = U3 * P + P := by grind
  omega
theorem kn_le (B P V2 vl U3 sl v S q qh : Int) (hP : 0 < P) (hv : v = V2 * P + vl) (hvl0 : 0 ≤ vl) (hvl : vl < P) (hS : S = U3 * P + sl) (hsl : 0 ≤ sl) (hq : S < (q + 1) * v) (hqh0 : 0 ≤ qh) (hqh : qh < B) (hB : B * P ≤ v) (h : qh * V2 ≤ U3) : qh ≤ q + 1 := by
  refine Classical.byContradiction fun hc => ?_
  have hBP : 0 < B * P := Int.mul_pos (by omega) hP
  have h1 : (q + 1) * v ≤ (qh - 1) * v := Int.mul_le_mul_of_nonneg_right (by omega) (by omega)
  have h2 : qh * V2 * P ≤ U3 * P := Int.mul_le_mul_of_nonneg_right h (by omega)
  have h3 : qh * vl ≤ B * vl := Int.mul_le_mul_of_nonneg_right (by omega) hvl0
  have h3' : B * vl ≤ B * (P - 1) := Int.mul_le_mul_of_nonneg_left (by omega) (by omega)
  have h4 : (qh - 1) * v = qh * V2 * P + qh * vl - v := by grind
  have h5 : B * (P - 1) = B * P - B := by grind
  omega
theorem kn_max (B N vn1 v S q : Int) (hN : 0 < N) (hB : 2 ≤ B) (hv : v < (vn1 + 1) * N) (hS : vn1 * B * N ≤ S) (hn : B ≤ 2 * vn1) (hv0 : 0 < v) (hq : S < (q + 1) * v) : B - 1 ≤ q + 1 := by
  refine Classical.byContradiction fun hc => ?_
  have h1 : (q + 1) * v ≤ (B - 2) * v := Int.mul_le_mul_of_nonneg_right (by omega) (by omega)
  have h2 : (B - 2) * v ≤ (B - 2) * ((vn1 + 1) * N) := Int.mul_le_mul_of_nonneg_left (by omega) (by omega)
  have h3 : (B - 2) * ((vn1 + 1) * N) = vn1 * B * N - (2 * vn1 + 2 - B) * N := by grind
  have h4 : 0 ≤ (2 * vn1 + 2 - B) * N := Int.mul_nonneg (by omega) (by omega)
  omega
theorem kn_init (B P vn1 vn2 vl U2 un2 sl v S q : Int) (hP : 0 < P) (hB : 0 < B) (hv : v = (vn1 * B + vn2) * P + vl) (hvl : 0 ≤ vl) (hvn2 : 0 ≤ vn2) (hvn1 : 0 < vn1) (hS : S = (U2 * B + un2) * P + sl) (hun2 : un2 < B) (hsl : sl < P) (hq0 : 0 ≤ q) (hq : q * v ≤ S) : q ≤ U2 / vn1 := by
  rw [Int.le_ediv_iff_mul_le hvn1]
  refine Classical.byContradiction fun hc => ?_
  have h1 : (U2 + 1) * (B * P) ≤ q * vn1 * (B * P) := Int.mul_le_mul_of_nonneg_right (by omega) (by have := Int.mul_pos hB hP; omega)
  have h2 : q * v = q * vn1 * (B * P) + (q * vn2) * P + q * vl := by grind
  have h3 : 0 ≤ (q * vn2) * P := Int.mul_nonneg (Int.mul_nonneg hq0 hvn2) (by omega)
  have h4 : 0 ≤ q * vl := Int.mul_nonneg hq0 hvl
  have h5 : S = U2 * (B * P) + un2 * P + sl := by grind
  have h6 : un2 * P ≤ (B - 1) * P := Int.mul_le_mul_of_nonneg_right (by omega) (by omega)
  have h7 : (U2 + 1) * (B * P) = U2 * (B * P) + B * P := by grind
  have h8 : (B - 1) * P = B * P - P := by grind
  omega

theorem val_split (l : List Int) (k : Nat) (h : k ≤ l.length) : val l = val (l.take k) + BW ^ k * val (l.drop k) := by
  have := val_append (l.take k) (l.drop k)
  rw [List.take_append_drop, List.length_take, Nat.min_eq_left h] at this
  exact this
theorem val_one (l : List Int) (k : Nat) (h : l.length = k + 1) : val l = val (l.take k) + BW ^ k * l[k] := by
  rw [val_split l k (by omega), List.drop_eq_getElem_cons (by omega), List.drop_eq_nil_of_le (by omega)]
  simp [val]
theorem val_two (l : List Int) (k : Nat) (h : l.length = k + 2) : val l = val (l.take k) + BW ^ k * (l[k] + BW * l[k + 1]) := by
  rw [val_split l k (by omega), List.drop_eq_getElem_cons (by omega), List.drop_eq_getElem_cons (by omega), List.drop_eq_nil_of_le (by omega)]
  simp [val]
theorem val_three (l : List Int) (k : Nat) (h : l.length = k + 3) : val l = val (l.take k) + BW ^ k * (l[k] + BW * (l[k + 1] + BW * l[k + 2])) := by
  rw [val_split l k (by omega), List.drop_eq_getElem_cons (by omega), List.drop_eq_getElem_cons (by omega), List.drop_eq_getElem_cons (by omega), List.drop_eq_nil_of_le (by omega)]
  simp [val]
theorem words_take {l : List Int} (h : Words l) (k : Nat) : Words (l.take k) := fun z hz => h z (List.mem_of_mem_take hz)
theorem words_drop {l : List Int} (h : Words l) (k : Nat) : Words (l.drop k) := fun z hz => h z (List.mem_of_mem_drop hz)
theorem words_cons {a : Int} {l : List Int} (ha : 0 ≤ a ∧ a < BW) (h : Words l) : Words (a :: l) := fun z hz => by
  rw [List.mem_cons] at hz
  rcases hz with rfl | hz
  · exact ha
  · exact h z hz
theorem words_get {l : List Int} (h : Words l) (k : Nat) (hk : k < l.length) : 0 ≤ l[k] ∧ l[k] < BW := h _ (List.getElem_mem hk)

/-- What one digit of the quotient may be: what the guess must satisfy. -/
structure Gs (V S : List Int) (k : Nat) (hV : V.length = k + 2) (hS : S.length = k + 3) : Prop where
  wV : Words V
  wS : Words S
  nv : BW ≤ 2 * V[k + 1]
  lt : val S < val V * BW
/-- The digit. -/
def qd (V S : List Int) : Int := val S / val V
section
variable {V S : List Int} {k : Nat} {hV : V.length = k + 2} {hS : S.length = k + 3}
theorem gs_v (h : Gs V S k hV hS) : ∃ vl, val V = (V[k + 1] * BW + V[k]) * BW ^ k + vl ∧ 0 ≤ vl ∧ vl < BW ^ k := by
  refine ⟨val (V.take k), by rw [val_two V k hV]; grind, val_nonneg _ (words_take h.wV k), ?_⟩
  have := val_lt _ (words_take h.wV k)
  rwa [List.length_take, Nat.min_eq_left (by omega)] at this
theorem gs_s (h : Gs V S k hV hS) : ∃ sl, val S = ((S[k + 2] * BW + S[k + 1]) * BW + S[k]) * BW ^ k + sl ∧ 0 ≤ sl ∧ sl < BW ^ k := by
  refine ⟨val (S.take k), by rw [val_three S k hS]; grind, val_nonneg _ (words_take h.wS k), ?_⟩
  have := val_lt _ (words_take h.wS k)
  rwa [List.length_take, Nat.min_eq_left (by omega)] at this
theorem gs_pos (h : Gs V S k hV hS) : 0 < val V ∧ BW * BW ^ k ≤ val V := by
  obtain ⟨vl, hv, h0, h1⟩ := gs_v h
  have hp := bwp_pos k
  have hb := bw_pos
  have a := words_get h.wV k (by omega)
  have hn := h.nv
  have e : (V[k + 1] * BW + V[k]) * BW ^ k = (V[k + 1] * (BW * BW ^ k)) + V[k] * BW ^ k := by grind
  have h2 : 0 ≤ V[k] * BW ^ k := Int.mul_nonneg a.1 (by omega)
  have h3 : 1 * (BW * BW ^ k) ≤ V[k + 1] * (BW * BW ^ k) := Int.mul_le_mul_of_nonneg_right (by omega) (by have := Int.mul_pos hb hp; omega)
  have := Int.mul_pos hb hp
  omega
theorem gs_q (h : Gs V S k hV hS) : 0 ≤ qd V S ∧ qd V S < BW ∧ qd V S * val V ≤ val S ∧ val S < (qd V S + 1) * val V := by
  have hv := (gs_pos h).1
  have hs := val_nonneg _ h.wS
  refine ⟨Int.ediv_nonneg hs (by omega), Int.ediv_lt_of_lt_mul hv (by have := h.lt; rwa [Int.mul_comm] at this), Int.ediv_mul_le _ (by omega), Int.lt_ediv_add_one_mul_self _ hv⟩
theorem gs_ge (h : Gs V S k hV hS) (qh : Int) (hq : (S[k + 2] * BW + S[k + 1]) * BW + S[k] < qh * (V[k + 1] * BW + V[k])) : qd V S < qh := by
  obtain ⟨vl, hv, h0, h1⟩ := gs_v h
  obtain ⟨sl, hs, s0, s1⟩ := gs_s h
  obtain ⟨q0, q1, q2, q3⟩ := gs_q h
  have a := words_get h.wV k (by omega)
  have b := words_get h.wV (k + 1) (by omega)
  have hp := bwp_pos k
  have hb := bw_pos
  exact kn_ge (BW ^ k) _ vl _ sl _ _ _ qh hp hv h0 (by have := Int.mul_nonneg b.1 (Int.le_of_lt hb); omega) hs s1 q0 q2 hq
theorem gs_le (h : Gs V S k hV hS) (qh : Int) (h0 : 0 ≤ qh) (h1 : qh < BW) (hq : qh * (V[k + 1] * BW + V[k]) ≤ (S[k + 2] * BW + S[k + 1]) * BW + S[k]) : qh ≤ qd V S + 1 := by
  obtain ⟨vl, hv, v0, v1⟩ := gs_v h
  obtain ⟨sl, hs, s0, s1⟩ := gs_s h
  obtain ⟨q0, q1, q2, q3⟩ := gs_q h
  exact kn_le BW (BW ^ k) _ vl _ sl _ _ _ qh (bwp_pos k) hv v0 v1 hs s0 q3 h0 h1 (gs_pos h).2 hq
/-- The top words: no greater than the divisor's. -/
theorem gs_top (h : Gs V S k hV hS) : S[k + 2] ≤ V[k + 1] := by
  obtain ⟨vl, hv, v0, v1⟩ := gs_v h
  obtain ⟨sl, hs, s0, s1⟩ := gs_s h
  refine Classical.byContradiction fun hc => ?_
  have hl := h.lt
  have hp := bwp_pos k
  have hb := bw_pos
  have a := words_get h.wV k (by omega)
  have c := words_get h.wS k (by omega)
  have d := words_get h.wS (k + 1) (by omega)
  have hbp := Int.mul_pos hb hp
  have h1 : (V[k + 1] + 1) * (BW * (BW * BW ^ k)) ≤ S[k + 2] * (BW * (BW * BW ^ k)) := Int.mul_le_mul_of_nonneg_right (by omega) (by have := Int.mul_pos hb hbp; omega)
  have h2 : 0 ≤ S[k + 1] * (BW * BW ^ k) := Int.mul_nonneg d.1 (by omega)
  have h3 : 0 ≤ S[k] * BW ^ k := Int.mul_nonneg c.1 (by omega)
  have e1 : val S = S[k + 2] * (BW * (BW * BW ^ k)) + S[k + 1] * (BW * BW ^ k) + S[k] * BW ^ k + sl := by rw [hs]; grind
  have h4 : (V[k] + 1) * (BW * BW ^ k) ≤ BW * (BW * BW ^ k) := Int.mul_le_mul_of_nonneg_right (by omega) (by omega)
  have h5 : BW * (vl + 1) ≤ BW * BW ^ k := Int.mul_le_mul_of_nonneg_left (by omega) (by omega)
  have e2 : val V * BW = (V[k + 1] + 1) * (BW * (BW * BW ^ k)) - BW * (BW * BW ^ k) + (V[k] + 1) * (BW * BW ^ k) - BW * BW ^ k + BW * (vl + 1) - BW := by rw [hv]; grind
  omega
theorem gs_max (h : Gs V S k hV hS) (he : S[k + 2] = V[k + 1]) : qd V S ≤ BW - 1 ∧ BW - 1 ≤ qd V S + 1 := by
  obtain ⟨vl, hv, v0, v1⟩ := gs_v h
  obtain ⟨sl, hs, s0, s1⟩ := gs_s h
  obtain ⟨q0, q1, q2, q3⟩ := gs_q h
  have hp := bwp_pos k
  have hb := bw_pos
  have a := words_get h.wV k (by omega)
  have c := words_get h.wS k (by omega)
  have d := words_get h.wS (k + 1) (by omega)
  have hbp := Int.mul_pos hb hp
  refine ⟨by omega, kn_max BW (BW * BW ^ k) V[k + 1] (val V) (val S) (qd V S) hbp (by unfold BW; omega) ?_ ?_ h.nv (gs_pos h).1 q3⟩
  · have h4 : (V[k] + 1) * BW ^ k ≤ BW * BW ^ k := Int.mul_le_mul_of_nonneg_right (by omega) (by omega)
    have e : (V[k + 1] + 1) * (BW * BW ^ k) = V[k + 1] * BW * BW ^ k + BW * BW ^ k := by grind
    have e2 : val V = V[k + 1] * BW * BW ^ k + (V[k] + 1) * BW ^ k - BW ^ k + vl := by rw [hv]; grind
    omega
  · have h2 : 0 ≤ S[k + 1] * (BW * BW ^ k) := Int.mul_nonneg d.1 (by omega)
    have h3 : 0 ≤ S[k] * BW ^ k := Int.mul_nonneg c.1 (by omega)
    have e1 : val S = V[k + 1] * BW * (BW * BW ^ k) + S[k + 1] * (BW * BW ^ k) + S[k] * BW ^ k + sl := by rw [hs, he]; grind
    omega
theorem gs_init (h : Gs V S k hV hS) (hlt : S[k + 2] < V[k + 1]) : qd V S ≤ (S[k + 2] * BW + S[k + 1]) / V[k + 1] ∧ (S[k + 2] * BW + S[k + 1]) / V[k + 1] < BW ∧ 0 ≤ (S[k + 2] * BW + S[k + 1]) / V[k + 1] := by
  obtain ⟨vl, hv, v0, v1⟩ := gs_v h
  obtain ⟨sl, hs, s0, s1⟩ := gs_s h
  obtain ⟨q0, q1, q2, q3⟩ := gs_q h
  have a := words_get h.wV k (by omega)
  have a2 := words_get h.wV (k + 1) (by omega)
  have c := words_get h.wS k (by omega)
  have d := words_get h.wS (k + 1) (by omega)
  have d2 := words_get h.wS (k + 2) (by omega)
  have hn := h.nv
  have hb := bw_pos
  have hpos : 0 < V[k + 1] := by omega
  refine ⟨kn_init BW (BW ^ k) _ _ vl _ _ sl (val V) (val S) _ (bwp_pos k) hb hv v0 a.1 hpos hs c.2 s1 q0 q2, ?_, ?_⟩
  · refine Int.ediv_lt_of_lt_mul hpos ?_
    have : (S[k + 2] + 1) * BW ≤ V[k + 1] * BW := Int.mul_le_mul_of_nonneg_right (by omega) (by omega)
    have e : (S[k + 2] + 1) * BW = S[k + 2] * BW + BW := by grind
    have e2 : BW * V[k + 1] = V[k + 1] * BW := Int.mul_comm _ _
    omega
  · exact Int.ediv_nonneg (by have := Int.mul_nonneg d2.1 (Int.le_of_lt hb); omega) (by omega)

/-- The multiple of the divisor. -/
def qv (V : List Int) (qh : Int) : List Int := mvL V qh 0 ++ [mvC V qh 0]
theorem qv_len (V : List Int) (qh : Int) : (qv V qh).length = V.length + 1 := by simp [qv, mvL_len]
theorem val_qv (V : List Int) (qh : Int) : val (qv V qh) = val V * qh := by
  have := val_mv V qh 0
  unfold qv
  rw [val_snoc, mvL_len]
  omega
theorem words_qv {V : List Int} (qh : Int) (h : Words V) (h0 : 0 ≤ qh) (h1 : qh < BW) : Words (qv V qh) :=
  words_snoc (words_mv _ _ _) (mvC_rng V qh 0 h h0 h1 (by omega) bw_pos)
/-- After the subtraction: no borrow, and the guess was right. -/
theorem gs_sub0 (h : Gs V S k hV hS) (qh : Int) (hq : qd V S ≤ qh) (hq1 : qh ≤ qd V S + 1) (h0 : 0 ≤ qh) (h1 : qh < BW) (hc : svC S (qv V qh) 0 = 0) :
    qh = qd V S ∧ val (svL S (qv V qh) 0) = val S - val V * qd V S := by
  have hv := val_sv S (qv V qh) 0 h.wS (words_qv qh h.wV h0 h1) (by omega) (by omega) (by rw [qv_len]; omega)
  rw [hc, val_qv] at hv
  have hnn := val_nonneg _ (words_sv S (qv V qh) 0)
  obtain ⟨q0, q1, q2, q3⟩ := gs_q h
  have hp := (gs_pos h).1
  rcases Int.lt_or_eq_of_le hq with hlt | he
  · exfalso
    have e : qh = qd V S + 1 := by omega
    rw [e] at hv hnn
    rw [Int.mul_comm (val V)] at hv
    omega
  · rw [← he] at hv ⊢
    exact ⟨rfl, by omega⟩
/-- With a borrow: the guess was one too much; the divisor is added again. -/
theorem gs_sub1 (h : Gs V S k hV hS) (qh : Int) (hq : qd V S ≤ qh) (hq1 : qh ≤ qd V S + 1) (h0 : 0 ≤ qh) (h1 : qh < BW) (hc : svC S (qv V qh) 0 ≠ 0) (D : List Int) (hD : D = svL S (qv V qh) 0) (hDl : D.length = k + 3) (F : List Int)
    (hF : F = avL (D.take (k + 2)) V 0 ++ [IntKind.u64.wrap (D[k + 2] + avC (D.take (k + 2)) V 0)]) :
    qh - 1 = qd V S ∧ Words F ∧ F.length = k + 3 ∧ val F = val S - val V * qd V S := by
  have hv := val_sv S (qv V qh) 0 h.wS (words_qv qh h.wV h0 h1) (by omega) (by omega) (by rw [qv_len]; omega)
  have hcr := svC_rng S (qv V qh) 0 (by omega) (by omega)
  have hc1 : svC S (qv V qh) 0 = 1 := by omega
  have hwD : Words D := by rw [hD]; exact words_sv _ _ _
  rw [hc1, val_qv, ← hD, hS] at hv
  have hlt := val_lt D hwD
  rw [hDl] at hlt
  have hnn := val_nonneg D hwD
  obtain ⟨q0, q1, q2, q3⟩ := gs_q h
  have hp := (gs_pos h).1
  have hne : qh ≠ qd V S := fun e => by rw [e, Int.mul_comm (val V)] at hv; omega
  have e : qh = qd V S + 1 := by omega
  have hlen : (D.take (k + 2)).length = V.length := by rw [List.length_take]; omega
  have ha := val_av (D.take (k + 2)) V 0 hlen
  have har := avC_rng (D.take (k + 2)) V 0 (words_take hwD _) h.wV (by omega) (by omega)
  have hwF : Words F := by
    rw [hF]
    exact words_snoc (words_av _ _ _) (by rw [IntKind.wrap_u64]; unfold BW; omega)
  have hlF : F.length = k + 3 := by rw [hF, List.length_append, avL_len _ _ _ hlen, hlen, hV]; simp
  have hvF : val F = val (avL (D.take (k + 2)) V 0) + BW ^ (k + 2) * IntKind.u64.wrap (D[k + 2] + avC (D.take (k + 2)) V 0) := by
    rw [hF, val_snoc, avL_len _ _ _ hlen, hlen, hV]
  have hvD := val_one D (k + 2) hDl
  rw [hlen, hV] at ha
  generalize avC (D.take (k + 2)) V 0 = c2 at *
  generalize val (avL (D.take (k + 2)) V 0) = X at *
  have hd := words_get hwD (k + 2) (by omega)
  generalize D[k + 2] = t at *
  have hFlt := val_lt F hwF
  have hF0 := val_nonneg F hwF
  rw [hlF] at hFlt
  have hw : IntKind.u64.wrap (t + c2) = t + c2 - BW * ((t + c2) / BW) := by
    rw [IntKind.wrap_u64]
    unfold BW
    omega
  have hk : (t + c2) / BW = 0 ∨ (t + c2) / BW = 1 := by
    have h1 : 0 ≤ (t + c2) / BW := Int.ediv_nonneg (by omega) (by have := bw_pos; omega)
    have h2 : (t + c2) / BW < 2 := Int.ediv_lt_of_lt_mul bw_pos (by omega)
    omega
  rw [hw] at hvF
  have hb3 : (BW : Int) ^ (k + 3) = BW ^ (k + 2) * BW := Int.pow_succ _ _
  have hvq : val V * qh = val V * qd V S + val V := by rw [e]; grind
  have hq2' : val V * qd V S ≤ val S := by rw [Int.mul_comm]; exact q2
  refine ⟨by omega, hwF, hlF, ?_⟩
  rcases hk with hk | hk
  · rw [hk] at hvF
    exfalso
    have e1 : BW ^ (k + 2) * (t + c2 - BW * 0) = BW ^ (k + 2) * t + BW ^ (k + 2) * c2 := by rw [Int.mul_zero, Int.sub_zero, Int.mul_add]
    omega
  · rw [hk] at hvF
    have e1 : BW ^ (k + 2) * (t + c2 - BW * 1) = BW ^ (k + 2) * t + BW ^ (k + 2) * c2 - BW ^ (k + 3) := by rw [hb3, Int.mul_sub, Int.mul_add, Int.mul_one]
    omega
end
/-- Words of which the number is small: the last is 0. -/
theorem small_last {F : List Int} {n : Nat} (hw : Words F) (hl : F.length = n + 1) (hv : val F < BW ^ n) : F = F.take n ++ [0] := by
  have h1 := val_one F n hl
  have h2 := val_nonneg _ (words_take hw n)
  have h3 := words_get hw n (by omega)
  have h4 : F[n] = 0 := by
    refine Classical.byContradiction fun hc => ?_
    have h6 : BW ^ n * 1 ≤ BW ^ n * F[n] := Int.mul_le_mul_of_nonneg_left (by omega) (Int.le_of_lt (bwp_pos n))
    rw [Int.mul_one] at h6
    generalize BW ^ n * F[n] = Y at *
    generalize BW ^ n = Z at *
    omega
  have h5 := List.take_succ_eq_append_getElem (show n < F.length by omega)
  rw [h4, ← hl, List.take_length] at h5
  exact h5
end Go.Proofs.YtoofphhfealcaaaGreatDoor
