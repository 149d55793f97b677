/-
  WALKS: the division of a number by a greater one's divisor (div); the three divisors of the table.
-/
import Derived.Test.YtoofphhfealcaaaGreatDoorR13
import Derived.Test.YtoofphhfealcaaaGreatDoorR5
namespace Go.Proofs.YtoofphhfealcaaaGreatDoor
open Go.RowKit

/-- A divisor of which the scaling and the reciprocal are known. -/
structure DvOK (V : List Int) (n : Nat) : Prop where
  ex : ∃ (kk sh : Nat) (vt vn1 rec : Int) (Vn : List Int), n = kk + 2 ∧ V.length = kk + 2 ∧ (∀ h : kk + 1 < V.length, V[kk + 1] = vt) ∧ (∀ W, Calls Tryz.prog 225 #[.int .u64 vt] W fun e w' => e = .returned (.int .u64 sh) ∧ W = w') ∧
    ((sh = 0 ∧ Vn = V) ∨ (sh = 1 ∧ Vn = mvL V 2 0 ∧ mvC V 2 0 = 0)) ∧ (∀ h : kk + 1 < Vn.length, Vn[kk + 1] = vn1) ∧ Rec vn1 rec ∧ (∀ W, Calls Tryz.prog 240 #[.int .u64 vn1] W fun e w' => e = .returned (.int .u64 rec) ∧ w' = W)
  n5 : 5 ≤ n
  n40 : n < 40
  r1 : bits .andNot .i64 ((n : Int) + 3) 3 = (n : Int)
  r2 : bits .andNot .i64 (((n + 1 : Nat) : Int) + 3) 3 = ((n + 4 : Nat) : Int)
  words : Words V
  nrm : nrm V = V
set_option maxRecDepth 100000 in
set_option maxHeartbeats 4000000 in
theorem div_any (qb qc sb vb vc n lx : Nat) (z2 : Value) (l rl : List Nat) (xs V : List Int) (w : World)
    (hD : DvOK V n) (hlx : xs.length = lx) (hle : val V ≤ val xs) (hlx9 : lx ≤ 900) (hX : Words xs) (hnx : nrm xs = xs)
    (hS : StkAt w sb l 0) (hQB : NatB w qb qc xs) (hqc : qc ≤ 1048576) (hRV : Reads w vb 0 V) (hZ : ZOK w z2 rl)
    (d1 : qb ∉ sb :: (l ++ rl)) (d2 : vb ∉ qb :: sb :: (l ++ rl)) (d3 : ∀ x ∈ rl, x ∉ sb :: l) (d4 : ∀ x ∈ qb :: sb :: (l ++ rl), 20 ≤ x) (hw20 : 20 ≤ w.heap.size)
    (h17 : w.cell? ⟨17, 0, none⟩ = some (.int .i64 40)) :
    Calls Tryz.prog 195 #[.slice (some ⟨qb, 0, none⟩) lx qc, .pointer (some ⟨sb, 0, none⟩), z2, .slice (some ⟨qb, 0, none⟩) lx qc, .slice (some ⟨vb, 0, none⟩) n vc] w (DivPost w sb qb qc l rl xs V) := by
  obtain ⟨kk, sh, vt, vn1, rec, Vn, e1, e2, e3, e4, e5, e6, e7, e8⟩ := hD.ex
  have hVl : V.length = n := by omega
  have hnl : n ≤ lx := by
    refine Classical.byContradiction fun hc => ?_
    have := val_shorter hX hD.words hD.nrm (by omega)
    omega
  have HC := Lib.hid (cmp_any qb qc vb vc xs V w hX hD.words hnx hD.nrm (by omega) (by omega) hQB.rds hRV)
  rw [hlx, hVl] at HC
  have HL := Lib.hid (fun q => divLarge_any qb qc sb vb vc n kk lx (lx - n) sh rec vt vn1 z2 l rl xs V Vn (w.drewN q) e1 hD.n5 hD.n40 e2 hlx (by omega) hlx9 hD.words hX (stk_kp hS ((Kp.refl [] w).drewN q) (by simp)) hD.r1 hD.r2 (natB_drewN hQB q) hqc hRV (zok_kp hZ ((Kp.refl [] w).drewN q) (by simp)) d1 d2 d3 d4 hw20 e3 e4 e5 e6 e7 e8 h17)
  have hn5 := hD.n5
  have h0 : ((n : Int) == 0) = false := by rw [beq_eq_false_iff_ne]; omega
  have h1 : ((n : Int) == 1) = false := by rw [beq_eq_false_iff_ne]; omega
  have HLE := Lib.hid hle
  clear hD hX hnx hS hQB hRV hZ d1 d2 d3 d4 e1 e2 e3 e4 e5 e6 e7 e8 h17 hle hlx
  go_enter_defers Tryz.func195, Tryz.ntmps195
  go_upto_region 10 with (go_at_call 194; refine HC.out.mono ?_; rintro e w1 ⟨r, rfl, hr, q, rfl⟩; have hr0 : decide (r < 0) = false := (by have := HLE.out; rcases hr with ⟨_, h⟩ | ⟨h, _⟩ | ⟨h, _⟩ <;> simp <;> omega); clear hr)
  go_wp2_with (go_at_call 212; refine (HL.out q).mono ?_; rintro e w2 ⟨Q, R, ub, uc, l', rfl, hp⟩; have HP := Lib.hid hp; clear hp)
  simp only [bodyPostD]
  obtain ⟨a1, a2, a3, a4, a5, a6, a7, a8, a9⟩ := HP.out
  refine ⟨_, by simp [results, Tryz.results195, go_sem]; try rfl, Q, R, ub, uc, l', rfl, a1, a2, a3, a4, a5, a6, a7, a8, ((Kp.refl _ w).drewN q).trans a9⟩
set_option maxHeartbeats 1000000 in
theorem nlz_one (y : Int) (w : World) (h1 : 4611686018427387904 ≤ y) (h2 : y < 9223372036854775808) : Calls Tryz.prog 225 #[.int .u64 y] w fun e w' => e = .returned (.int .u64 1) ∧ w = w' := by
  have hb : Lib.bitLen y.toNat = 63 := by
    have ha := bitLen_lt y.toNat (by omega)
    have hb := bitLen_ge y.toNat (by omega) (by omega)
    have h3 : Lib.bitLen y.toNat ≤ 63 := by
      refine Classical.byContradiction fun hc => ?_
      have : 2 ^ 63 ≤ 2 ^ (Lib.bitLen y.toNat - 1) := Nat.pow_le_pow_right (by omega) (by omega)
      omega
    rcases Nat.lt_or_ge (Lib.bitLen y.toNat) 63 with h | h
    · have : 2 ^ Lib.bitLen y.toNat ≤ 2 ^ 62 := Nat.pow_le_pow_right (by omega) (by omega)
      omega
    · omega
  have HB := Lib.hid hb
  clear hb
  go_enter Tryz.func225, Tryz.ntmps225
  go_wp2_with (go_at_call 259; refine (Tryz.bits_LeadingZeros y _ (by omega) (by omega)).mono ?_; rintro e w' ⟨rfl, rfl⟩; rw [HB.out])
  go_ret
  exact ⟨rfl, rfl⟩
/-- The top word, out of the number. -/
theorem top_word {V : List Int} {k : Nat} (hw : Words V) (hl : V.length = k + 1) : V[k] = val V / BW ^ k := by
  have h1 := val_one V k hl
  have h2 := val_nonneg _ (words_take hw k)
  have h3 := val_lt _ (words_take hw k)
  rw [List.length_take, Nat.min_eq_left (by omega)] at h3
  rw [h1, Int.add_mul_ediv_left _ _ (by have := bwp_pos k; omega), Int.ediv_eq_zero_of_lt h2 h3, Int.zero_add]
/-- How many words a number has. -/
theorem len_of_val {V : List Int} {k : Nat} (hw : Words V) (hn : nrm V = V) (h1 : BW ^ k ≤ val V) (h2 : val V < BW ^ (k + 1)) : V.length = k + 1 := by
  have a := val_lt V hw
  have h3 : k < V.length := by
    refine Classical.byContradiction fun hc => ?_
    have := bwp_mono (show V.length ≤ k by omega)
    omega
  refine Classical.byContradiction fun hc => ?_
  obtain ⟨j, hj⟩ : ∃ j, V.length = j + 1 := ⟨V.length - 1, by omega⟩
  have b := top_ge hw hn hj
  have := bwp_mono (show k + 1 ≤ j by omega)
  omega
theorem dv154 {V : List Int} (hw : Words V) (hn : nrm V = V) (hv : val V = 10 ^ 154) : V.length = 8 ∧ DvOK V 8 := by
  have hl : V.length = 7 + 1 := len_of_val hw hn (by rw [hv]; unfold BW; decide +kernel) (by rw [hv]; unfold BW; decide +kernel)
  have ht : ∀ h : 6 + 1 < V.length, V[6 + 1] = 13758210268297397763 := fun h => by
    rw [top_word hw hl, hv]
    unfold BW
    decide +kernel
  exact ⟨hl, ⟨6, 0, 13758210268297397763, 13758210268297397763, 6286296073600901791, V, rfl, hl, ht, fun W => nlz_top _ W (by decide) (by unfold BW; decide), .inl ⟨rfl, rfl⟩, ht, recIs_b, rec_b⟩, by omega, by omega, by kernel_rfl, by kernel_rfl, hw, hn⟩
theorem dv308 {V : List Int} (hw : Words V) (hn : nrm V = V) (hv : val V = 10 ^ 308) : V.length = 16 ∧ DvOK V 16 := by
  have hl : V.length = 15 + 1 := len_of_val hw hn (by rw [hv]; unfold BW; decide +kernel) (by rw [hv]; unfold BW; decide +kernel)
  have ht : ∀ h : 14 + 1 < V.length, V[14 + 1] = 10261342003245940623 := fun h => by
    rw [top_word hw hl, hv]
    unfold BW
    decide +kernel
  exact ⟨hl, ⟨14, 0, 10261342003245940623, 10261342003245940623, 14714841108160220095, V, rfl, hl, ht, fun W => nlz_top _ W (by decide) (by unfold BW; decide), .inl ⟨rfl, rfl⟩, ht, recIs_c, rec_c⟩, by omega, by omega, by kernel_rfl, by kernel_rfl, hw, hn⟩
theorem dv616 {V : List Int} (hw : Words V) (hn : nrm V = V) (hv : val V = 10 ^ 616) : V.length = 32 ∧ DvOK V 32 := by
  have hl : V.length = 31 + 1 := len_of_val hw hn (by rw [hv]; unfold BW; decide +kernel) (by rw [hv]; unfold BW; decide +kernel)
  have ht : ∀ h : 30 + 1 < V.length, V[30 + 1] = 5708060961156115120 := fun h => by
    rw [top_word hw hl, hv]
    unfold BW
    decide +kernel
  have hm := val_mv V 2 0
  rw [hl, hv] at hm
  have hml : (mvL V 2 0).length = 31 + 1 := by rw [mvL_len]; exact hl
  have hmw := words_mv V 2 0
  have hc := mvC_rng V 2 0 hw (by omega) (by unfold BW; omega) (by omega) bw_pos
  have hl2 := val_lt _ hmw
  have hl3 := val_nonneg _ hmw
  have hc0 : mvC V 2 0 = 0 := by
    refine Classical.byContradiction fun h => ?_
    have h1 : BW ^ (31 + 1) * 1 ≤ BW ^ (31 + 1) * mvC V 2 0 := Int.mul_le_mul_of_nonneg_left (by omega) (by unfold BW; decide +kernel)
    have h2 : (10 : Int) ^ 616 * 2 + 0 < BW ^ (31 + 1) * 1 := by unfold BW; decide +kernel
    generalize (10 : Int) ^ 616 * 2 + 0 = A at *
    generalize BW ^ (31 + 1) * mvC V 2 0 = C at *
    generalize BW ^ (31 + 1) * 1 = D at *
    omega
  rw [hc0, Int.mul_zero, Int.add_zero] at hm
  have ht2 : ∀ h : 30 + 1 < (mvL V 2 0).length, (mvL V 2 0)[30 + 1] = 11416121922312230241 := fun h => by
    rw [top_word hmw hml, hm]
    unfold BW
    decide +kernel
  exact ⟨hl, ⟨30, 1, 5708060961156115120, 11416121922312230241, 11360432937590044541, mvL V 2 0, rfl, hl, ht, fun W => nlz_one _ W (by decide) (by decide), .inr ⟨rfl, rfl, hc0⟩, ht2, recIs_d, rec_d⟩, by omega, by omega, by kernel_rfl, by kernel_rfl, hw, hn⟩
end Go.Proofs.YtoofphhfealcaaaGreatDoor
