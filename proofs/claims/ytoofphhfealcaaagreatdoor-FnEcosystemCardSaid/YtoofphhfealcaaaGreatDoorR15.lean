/-
  WALK: the exponent's leading zeros.
  PLAIN LAWS: the digits of a number that is cut in two.
  WALK: the eighth power of 10^19 (expNN).
  WALKS: a copy of a number into a row that is there or a new one (set); the first divisor's power (expWW).
  PLAIN LAWS: a number and its bits; the table's numbers.
  WALKS: the digits of numbers of any length (convertWords).
-/
import Derived.Test.YtoofphhfealcaaaGreatDoorR23
import Derived.Test.YtoofphhfealcaaaGreatDoorK7
import Derived.Test.YtoofphhfealcaaaGreatDoorR14
namespace Go.Proofs.YtoofphhfealcaaaGreatDoor
open Go.RowKit
set_option maxHeartbeats 1000000 in
theorem nlz_eight (w : World) : Calls Tryz.prog 225 #[.int .u64 8] w fun e w' => e = .returned (.int .u64 60) ∧ w = w' := by
  obtain ⟨y, hy⟩ : ∃ y : Int, y = 8 := ⟨_, rfl⟩
  rw [← hy]
  have h1 : 0 ≤ y := by omega
  have h2 : y < 9 := by omega
  have hb : Lib.bitLen y.toNat = 4 := by rw [hy]; decide +kernel
  have HB := Lib.hid hb; have HY := Lib.hid hy
  clear hb hy
  go_enter Tryz.func225, Tryz.ntmps225
  go_wp2_with (go_at_call 259; refine (Tryz.bits_LeadingZeros y _ (by omega) (by omega)).mono ?_; rintro e w' ⟨rfl, rfl⟩; rw [HB.out])
  go_ret
  exact ⟨rfl, rfl⟩
end Go.Proofs.YtoofphhfealcaaaGreatDoor

namespace Go.Proofs.YtoofphhfealcaaaGreatDoor
open Go.RowKit

theorem ten_add (a b : Nat) : ten (a + b) = ten a * ten b := by
  unfold ten
  exact Int.pow_add 10 a b
theorem dgt_mod (x : Int) (m e : Nat) (he : e < m) : dgt (x % ten m) e = dgt x e := by
  obtain ⟨k, rfl⟩ : ∃ k, m = e + (k + 1) := ⟨m - e - 1, by omega⟩
  have h1 := Int.emod_add_mul_ediv x (ten (e + (k + 1)))
  have hp := ten_pos e
  have h2 : x / ten e = x % ten (e + (k + 1)) / ten e + ten k * 10 * (x / ten (e + (k + 1))) := by
    have e1 : x = x % ten (e + (k + 1)) + ten e * (ten k * 10 * (x / ten (e + (k + 1)))) := by
      have e2 : ten (e + (k + 1)) = ten e * (ten k * 10) := by rw [ten_add, ten_succ]
      rw [← Int.mul_assoc, ← e2]
      exact h1.symm
    conv => lhs; rw [e1]
    rw [Int.add_mul_ediv_left _ _ (by omega)]
  unfold dgt
  rw [h2]
  have e3 : ten k * 10 * (x / ten (e + (k + 1))) = 10 * (ten k * (x / ten (e + (k + 1)))) := by rw [Int.mul_comm (ten k) 10, Int.mul_assoc]
  rw [e3]
  omega
theorem dgt_div (x : Int) (m e : Nat) : dgt (x / ten m) e = dgt x (m + e) := by
  unfold dgt
  rw [ten_add, Int.ediv_ediv_of_nonneg (by have := ten_pos m; omega)]
theorem dgt_zero (x : Int) (e m : Nat) (h0 : 0 ≤ x) (hm : m ≤ e) (hx : x < ten m) : dgt x e = 48 := by
  have h1 : ten m ≤ ten e := ten_mono hm
  unfold dgt
  rw [Int.ediv_eq_zero_of_lt h0 (by omega)]
  rfl
end Go.Proofs.YtoofphhfealcaaaGreatDoor

namespace Go.Proofs.YtoofphhfealcaaaGreatDoor
open Go.RowKit
set_option maxHeartbeats 1000000 in
theorem sqr_low (z sv : Value) (rl : List Nat) (xb xc n : Nat) (xs : List Int) (w : World) (hxn : xs.length = n) (h1 : 1 ≤ n) (h12 : n < 12) (hX : Words xs) (hB : NatB w xb xc xs) (hxc : xc ≤ 1048576) (hz : ZOK w z rl) (hxr : xb ∉ rl)
    (h15 : w.cell? ⟨15, 0, none⟩ = some (.int .i64 12)) (h16 : w.cell? ⟨16, 0, none⟩ = some (.int .i64 80)) :
    Calls Tryz.prog 193 #[z, sv, .slice (some ⟨xb, 0, none⟩) n xc] w (SqPost w rl (val xs * val xs)) := by
  by_cases h : n = 1
  · subst h
    obtain ⟨x, rfl⟩ := List.length_eq_one_iff.1 hxn
    have hx := hX x (by simp)
    have := sqr_one z sv rl xb xc x w hx.1 hx.2 hB hz
    have e : val [x] = x := by simp [val]
    rw [e]
    exact this
  · exact sqr_mid z sv rl xb xc n xs w hxn (by omega) h12 hX hB hxc hz hxr h15 h16
/-- What the squares' loop has in hand. -/
structure ExpI (w wr : World) (j zb zc : Nat) (Z : List Int) (zz : Value) (rl : List Nat) : Prop where
  nb : NatB wr zb zc Z
  words : Words Z
  nrm : nrm Z = Z
  v : val Z = ten (19 * 2 ^ j)
  len : Z.length = 2 ^ j
  big : zc ≤ 1048576
  new : w.heap.size ≤ zb
  zok : ZOK wr zz rl
  rnew : ∀ y ∈ rl, w.heap.size ≤ y ∧ y ≠ zb
  kp : Kp [] w wr
theorem ten_sq (k : Nat) : ten (19 * 2 ^ k) * ten (19 * 2 ^ k) = ten (19 * 2 ^ (k + 1)) := by
  rw [← ten_add]
  congr 1
  rw [Nat.pow_succ]
  omega
theorem len_exp {Z : List Int} {j : Nat} (hj : j = 1 ∨ j = 2 ∨ j = 3) (hw : Words Z) (hn : nrm Z = Z) (hv : val Z = ten (19 * 2 ^ j)) : Z.length = 2 ^ j := by
  rcases hj with rfl | rfl | rfl
  · exact len_of_val (k := 1) hw hn (by rw [hv]; unfold BW ten; decide +kernel) (by rw [hv]; unfold BW ten; decide +kernel)
  · exact len_of_val (k := 3) hw hn (by rw [hv]; unfold BW ten; decide +kernel) (by rw [hv]; unfold BW ten; decide +kernel)
  · exact len_of_val (k := 7) hw hn (by rw [hv]; unfold BW ten; decide +kernel) (by rw [hv]; unfold BW ten; decide +kernel)
theorem expI_step {w wr w2 : World} {j zb zc ub uc : Nat} {Z Z2 : List Int} {zz : Value} {rl : List Nat} (h : ExpI w wr j zb zc Z zz rl) (hj : j < 3)
    (a1 : NatB w2 ub uc Z2) (a2 : Words Z2) (a3 : nrm Z2 = Z2) (a4 : val Z2 = val Z * val Z) (a5 : uc ≤ 1048576) (a6 : ub ∈ rl ∨ wr.heap.size ≤ ub) (a7 : Kp rl wr w2) :
    ExpI w w2 (j + 1) ub uc Z2 (.slice (some ⟨zb, 0, none⟩) Z.length zc) [zb] := by
  have hv : val Z2 = ten (19 * 2 ^ (j + 1)) := by rw [a4, h.v, ten_sq]
  have hzl := natB_lt h.nb
  have hsz := h.kp.size
  have hne : zb ∉ rl := fun hm => (h.rnew zb hm).2 rfl
  refine ⟨a1, a2, a3, hv, len_exp (by omega) a2 a3 hv, a5, ?_, .inr ⟨zb, _, zc, rfl, rfl, rowC_kp h.nb.blk a7 hne, h.big⟩, fun y hy => ?_, kp_step h.kp a7 (fun y hy => .inr (h.rnew y hy).1)⟩
  · rcases a6 with h1 | h1
    · exact (h.rnew ub h1).1
    · omega
  · obtain rfl : y = zb := by simpa using hy
    refine ⟨h.new, ?_⟩
    rcases a6 with h1 | h1
    · exact Ne.symm (h.rnew ub h1).2
    · omega
theorem expI_sqr {w wr : World} {j zb zc : Nat} {Z : List Int} {zz sv : Value} {rl : List Nat} (h : ExpI w wr j zb zc Z zz rl) (hj : j < 3) (h15 : w.cell? ⟨15, 0, none⟩ = some (.int .i64 12)) (h16 : w.cell? ⟨16, 0, none⟩ = some (.int .i64 80)) :
    Calls Tryz.prog 193 #[zz, sv, .slice (some ⟨zb, 0, none⟩) Z.length zc] wr fun e w2 => ∃ ub uc Z2, e = .returned (.slice (some ⟨ub, 0, none⟩) (List.length Z2) uc) ∧ ExpI w w2 (j + 1) ub uc Z2 (.slice (some ⟨zb, 0, none⟩) Z.length zc) [zb] := by
  have hl : 1 ≤ Z.length ∧ Z.length < 12 := by
    rw [h.len]
    have : j = 0 ∨ j = 1 ∨ j = 2 := by omega
    rcases this with rfl | rfl | rfl <;> decide
  refine (sqr_low zz sv rl zb zc Z.length Z wr rfl hl.1 hl.2 h.words h.nb h.big h.zok (fun hm => (h.rnew zb hm).2 rfl) (h.kp.cell h15 (by simp)) (h.kp.cell h16 (by simp))).mono ?_
  rintro e w2 ⟨ub, uc, Z2, rfl, a1, a2, a3, a4, a5, a6, a7⟩
  exact ⟨ub, uc, Z2, rfl, expI_step h hj a1 a2 a3 a4 a5 a6 a7⟩
theorem expI_start {w wr : World} {zb C : Nat} (h1 : NatB wr zb C [10000000000000000000]) (hC : C ≤ 5) (hn : w.heap.size ≤ zb) (hk : Kp [] w wr) : ExpI w wr 0 zb C [10000000000000000000] (.slice none 0 0) [] :=
  ⟨h1, fun z hz => by rw [List.mem_singleton] at hz; subst hz; unfold BW; omega, by decide, by decide, rfl, by omega, hn, .inl ⟨rfl, rfl⟩, fun y hy => by simp at hy, hk⟩
set_option maxRecDepth 100000 in
set_option maxHeartbeats 8000000 in
theorem exp8 (xb yb sb : Nat) (w : World) (hx : NatB w xb 1 [10000000000000000000]) (hy : NatB w yb 1 [8]) (h15 : w.cell? ⟨15, 0, none⟩ = some (.int .i64 12)) (h16 : w.cell? ⟨16, 0, none⟩ = some (.int .i64 80)) :
    Calls Tryz.prog 207 #[.slice none 0 0, .pointer (some ⟨sb, 0, none⟩), .slice (some ⟨xb, 0, none⟩) 1 1, .slice (some ⟨yb, 0, none⟩) 1 1, .slice none 0 0, .bool false] w (SqPost w [] (ten 152)) := by
  have c1 : w.cell? ⟨xb, 0, none⟩ = some (.int .u64 10000000000000000000) := natB_cell hx (k := 0) (by simp)
  have c2 : w.cell? ⟨yb, 0, none⟩ = some (.int .u64 8) := natB_cell hy (k := 0) (by simp)
  have HA : Hid (∀ (b : Nat) (W : World), RowC W b 1 → Calls Tryz.prog 174 #[.slice none 0 0, .slice (some ⟨b, 0, none⟩) 1 1] W fun e w' => e = .returned (.bool false) ∧ ∃ q2, w' = W.drewN q2) := fun b W h => alias_z _ [] b 1 1 W (.inl ⟨rfl, rfl⟩) (by simp) (by omega) (by omega) h
  have HSET : Hid (∀ W, Kp [] w W → Calls Tryz.prog 165 #[.slice none 0 0, .slice (some ⟨xb, 0, none⟩) 1 1] W fun e w' => ∃ C, e = .returned (.slice (some ⟨W.heap.size, 0, none⟩) 1 C) ∧ NatB w' W.heap.size C [10000000000000000000] ∧ C ≤ 5 ∧ Below W.heap.size W w') := fun W hk => set_any xb 1 [10000000000000000000] W (by simp) (by simp) (by have := natB_lt hx; have := hk.size; omega) (natB_kp hx hk (by simp)).rds
  have HX := Lib.hid hx; have HY := Lib.hid hy; have H15 := Lib.hid h15; have H16 := Lib.hid h16; have HC2 := Lib.hid c2
  clear hx hy h15 h16
  go_enter Tryz.func207, Tryz.ntmps207
  go_upto_region 3 with (go_at_call 174; refine (HA.out _ _ (by first | exact HX.out.blk | exact HY.out.blk | exact rowC_of HX.out.blk rfl | exact rowC_of HY.out.blk rfl)).mono ?_; rintro e w2 ⟨rfl, q, rfl⟩)
  go_upto_region 27 with fail
  go_upto_region 28 with (go_at_call 165; refine (HSET.out _ (by first | exact Kp.refl _ _ | exact (Kp.refl _ _).drewN _ | exact ((Kp.refl _ _).drewN _).drewN _)).mono ?_; rintro e w3 ⟨C, rfl, hN3, hC, hB3⟩; have c3 : w3.cell? ⟨yb, 0, none⟩ = some (.int .u64 8) := (by rw [hB3.cell (p := ⟨yb, 0, none⟩) (by simpa using natB_lt HY.out)]; exact HC2.out); have HN3 := Lib.hid hN3; have HB3 := Lib.hid hB3; clear hN3 hB3)
  have hE0 : ExpI w w3 0 w.heap.size C [10000000000000000000] (.slice none 0 0) [] := expI_start HN3.out hC (Nat.le_refl _) (((Kp.refl [] w).drewN _).trans (kp_below HB3.out))
  have HE0 := Lib.hid hE0
  clear hE0 HN3 HB3 HSET HA HC2 c1 c2 HX HY hC
  have hb : bits .and .u64 0 9223372036854775808 = 0 := by kernel_rfl
  have hshl : ∀ W, (binOp .shl 156 (.int .u64 8) (.int .u64 61)).run Tryz.prog W = .ok (.int .u64 0) W := fun W => by kernel_rfl
  go_upto_region 35 with (go_at_call 225; refine (nlz_eight _).mono ?_; rintro e w' ⟨rfl, rfl⟩)
  go_loopw [0, 15, 19, 21] (fun z v zz j wr => ∃ (k zb zc : Nat) (Z : List Int) (y : Value) (rl : List Nat), z = .slice (some ⟨zb, 0, none⟩) (List.length Z) zc ∧ v = .int .u64 0 ∧ zz = y ∧ j = .int .i64 k ∧ k ≤ 3 ∧ Hid (ExpI w wr k zb zc Z y rl)) (fun _ _ _ j _ => 3 - (intOf j).toNat)
  case atStart => exact ⟨0, w.heap.size, C, [10000000000000000000], _, [], rfl, rfl, rfl, rfl, by omega, HE0⟩
  case round =>
    obtain ⟨k, zb, zc, Z, y, rl, rfl, rfl, rfl, rfl, hk, HE⟩ := hrel
    clear HE0
    by_cases hk3 : k < 3
    · go_wp2_with (go_at_call 193; refine (expI_sqr HE.out hk3 H15.out H16.out).mono ?_; rintro e w2 ⟨ub, uc, Z2, rfl, hE2⟩; have HE2 := Lib.hid hE2; clear hE2)
      go_roundw
      case rel => exact ⟨k + 1, ub, uc, Z2, _, _, rfl, by first | rfl | trivial, rfl, by go_num, by omega, HE2⟩
      case measure => simp [intOf]; omega
    · obtain rfl : k = 3 := by omega
      have HNR := Lib.hid (norm_any zb 0 zc Z wr (by rw [HE.out.len]; decide) HE.out.nb.fit HE.out.nb.rds)
      clear hb hshl H15 H16
      go_wp2_with fail
      go_loopw [0, 22] (fun z i wx => z = .slice (some ⟨zb, 0, none⟩) Z.length zc ∧ i = .int .i64 (-1) ∧ wr = wx) (fun _ _ _ => 0)
      case atStart => exact ⟨rfl, rfl, rfl⟩
      case round =>
        obtain ⟨rfl, rfl, rfl⟩ := hrel
        go_wp2_with (go_at_call 154; refine HNR.out.mono ?_; rintro e w4 ⟨rfl, rfl⟩)
        go_ret
        refine ⟨zb, zc, Z, by rw [HE.out.nrm]; rfl, HE.out.nb, HE.out.words, HE.out.nrm, by rw [HE.out.v], HE.out.big, .inr HE.out.new, HE.out.kp⟩
end Go.Proofs.YtoofphhfealcaaaGreatDoor

namespace Go.Proofs.YtoofphhfealcaaaGreatDoor
open Go.RowKit
set_option maxRecDepth 100000 in
set_option maxHeartbeats 4000000 in
theorem set_u (z : Value) (rl : List Nat) (xb xc n : Nat) (xs : List Int) (w : World) (hxn : xs.length = n) (h2 : 2 ≤ n) (hn : n ≤ 100000) (hz : ZOK w z rl) (hxr : xb ∉ rl) (hB : NatB w xb xc xs) :
    Calls Tryz.prog 165 #[z, .slice (some ⟨xb, 0, none⟩) n xc] w fun e w' => ∃ ub uc, e = .returned (.slice (some ⟨ub, 0, none⟩) n uc) ∧ NatB w' ub uc xs ∧ uc ≤ 1048576 ∧ (ub ∈ rl ∨ ub = w.heap.size) ∧ Kp rl w w' := by
  have HMK := Lib.hid (make_u z rl n w hz h2 hn)
  have HB := Lib.hid hB; have HXN := Lib.hid hxn; have HXR := Lib.hid hxr
  clear hz hB hxn hxr
  go_enter Tryz.func165, Tryz.ntmps165
  go_wp2_with (go_at_call 171; refine HMK.out.mono ?_; rintro e w2 ⟨ub, uc, rfl, hmk⟩; obtain ⟨w3, hc3, hs3⟩ := copy_seg ub 0 n uc xb xc xs w2 HXN.out (natB_below HB.out hmk.below).rds (rowC_room hmk.row (by have := hmk.fit; omega)); have e3 := hc3 3; have HM := Lib.hid hmk; have HS3 := Lib.hid hs3; clear hc3 hs3 hmk)
  go_ret
  have hrow := rowC_seg HM.out.row HS3.out
  refine ⟨ub, uc, rfl, natB_row hrow HS3.out.rds (by have := HM.out.fit; have := HXN.out; omega), HM.out.big, HM.out.new, ?_⟩
  refine kp_step (kp_mono (kp_below HM.out.below) (by simp)) HS3.out.kp (fun y hy => ?_)
  obtain rfl : y = ub := by simpa using hy
  rcases HM.out.new with h | h
  · exact .inl h
  · exact .inr (by omega)
set_option maxRecDepth 100000 in
set_option maxHeartbeats 4000000 in
theorem expWW_any (sb : Nat) (w : World) (h15 : w.cell? ⟨15, 0, none⟩ = some (.int .i64 12)) (h16 : w.cell? ⟨16, 0, none⟩ = some (.int .i64 80)) :
    Calls Tryz.prog 192 #[.slice none 0 0, .pointer (some ⟨sb, 0, none⟩), .int .u64 10000000000000000000, .int .u64 8] w (SqPost w [] (ten 152)) := by
  have HW : Hid (∀ (x : Int) (W : World), decide (0 < x) = true → Calls Tryz.prog 170 #[.slice none 0 0, .int .u64 x] W fun e w' => e = .returned (.slice (some ⟨W.heap.size, 0, none⟩) 1 1) ∧ NatB w' W.heap.size 1 [x] ∧ Below W.heap.size W w') := fun x W h => setWord_new x W (by simpa using h)
  have H15 := Lib.hid h15; have H16 := Lib.hid h16
  clear h15 h16
  have HNX : Hid (∀ w1 w2 : World, Hid (NatB w1 w.heap.size 1 [10000000000000000000]) → Hid (Below w.heap.size w w1) → Hid (NatB w2 w1.heap.size 1 [8]) → Hid (Below w1.heap.size w1 w2) → Calls Tryz.prog 207 #[.slice none 0 0, .pointer (some ⟨sb, 0, none⟩), .slice (some ⟨w.heap.size, 0, none⟩) 1 1, .slice (some ⟨w1.heap.size, 0, none⟩) 1 1, .slice none 0 0, .bool false] w2 (SqPost w [] (ten 152))) := by
    intro w1 w2 h1 b1 h2 b2
    have k1 := kp_below b1.out
    have k2 := kp_below b2.out
    have k12 : Kp [] w w2 := k1.trans k2
    refine (exp8 w.heap.size w1.heap.size sb w2 (natB_kp h1.out k2 (by simp)) h2.out (k12.cell H15.out (by simp)) (k12.cell H16.out (by simp))).mono ?_
    rintro e w3 ⟨ub, uc, Z, rfl, a1, a2, a3, a4, a5, a6, a7⟩
    refine ⟨ub, uc, Z, rfl, a1, a2, a3, a4, a5, .inr ?_, k12.trans a7⟩
    rcases a6 with h | h
    · simp at h
    · have := k12.size; omega
  clear H15 H16
  go_enter Tryz.func192, Tryz.ntmps192
  go_wp2_with (first
    | (go_at_call 170; refine (HW.out _ _ (by decide)).mono ?_; rintro e w1 ⟨rfl, hn1, hb1⟩; have HN1 := Lib.hid hn1; have HB1 := Lib.hid hb1; clear hn1 hb1)
    | (go_at_call 207; refine (HNX.out _ _ (by assumption) (by assumption) (by assumption) (by assumption)).mono ?_; rintro e w3 h3; obtain ⟨ub, uc, Z, rfl, h4⟩ := h3; have H4 := Lib.hid h4; clear h4))
  go_ret
  exact ⟨ub, uc, Z, rfl, H4.out⟩
end Go.Proofs.YtoofphhfealcaaaGreatDoor

namespace Go.Proofs.YtoofphhfealcaaaGreatDoor
open Go.RowKit
theorem bw_two (j : Nat) : (BW : Int) ^ j = 2 ^ (j * 64) := by
  have : (BW : Int) = 2 ^ 64 := by unfold BW; decide
  rw [this, ← Int.pow_mul, Nat.mul_comm]
theorem bl_bounds {ys : List Int} (hw : Words ys) (hn : nrm ys = ys) (h0 : 0 < ys.length) : (2 : Int) ^ (blOf ys - 1) ≤ val ys ∧ val ys < 2 ^ blOf ys ∧ (ys.length - 1) * 64 < blOf ys := by
  obtain ⟨j, hj⟩ : ∃ j, ys.length = j + 1 := ⟨ys.length - 1, by omega⟩
  have hlast : ys.getLastD 0 = ys[j] := by
    rw [List.getLastD_eq_getLast?, List.getLast?_eq_getElem?, show ys.length - 1 = j by omega, List.getElem?_eq_getElem (show j < ys.length by omega)]
    rfl
  have ht := words_get hw j (by omega)
  have hnz := nrm_top hn hj
  obtain ⟨t, ht2⟩ : ∃ t : Nat, ys[j] = (t : Int) := ⟨ys[j].toNat, by omega⟩
  have hb : blOf ys = j * 64 + Lib.bitLen t := by unfold blOf; rw [hlast, ht2, hj]; rfl
  rw [ht2] at ht hnz
  have ht64 : t < 2 ^ 64 := by unfold BW at ht; omega
  obtain ⟨b1, b2⟩ := bitLen_ge t ht64 (by omega)
  have b3 := bitLen_lt t ht64
  have e1 := val_one ys j hj
  rw [ht2] at e1
  have e2 := val_nonneg _ (words_take hw j)
  have e3 := val_lt _ (words_take hw j)
  rw [List.length_take, Nat.min_eq_left (by omega)] at e3
  have c1 : (2 : Int) ^ (Lib.bitLen t - 1) ≤ (t : Int) := by exact_mod_cast b1
  have c2 : (t : Int) + 1 ≤ 2 ^ Lib.bitLen t := by exact_mod_cast b3
  have hp := bwp_pos j
  have d1 : BW ^ j * 2 ^ (Lib.bitLen t - 1) ≤ BW ^ j * (t : Int) := Int.mul_le_mul_of_nonneg_left c1 (by omega)
  have d2 : BW ^ j * ((t : Int) + 1) ≤ BW ^ j * 2 ^ Lib.bitLen t := Int.mul_le_mul_of_nonneg_left c2 (by omega)
  rw [Int.mul_add, Int.mul_one] at d2
  have f1 : BW ^ j * 2 ^ (Lib.bitLen t - 1) = (2 : Int) ^ (blOf ys - 1) := by rw [bw_two, ← Int.pow_add, hb]; congr 1; omega
  have f2 : BW ^ j * 2 ^ Lib.bitLen t = (2 : Int) ^ blOf ys := by rw [bw_two, ← Int.pow_add, hb]
  rw [f1] at d1
  rw [f2] at d2
  refine ⟨by omega, by omega, by rw [hb, hj]; omega⟩
theorem two_mono {a b : Nat} (h : a ≤ b) : (2 : Int) ^ a ≤ 2 ^ b := by
  have := Nat.pow_le_pow_right (n := 2) (by omega) h
  exact_mod_cast this
theorem t154 : ten 154 < 2 ^ 512 := by unfold ten; decide +kernel
theorem t308 : ten 308 < 2 ^ 1024 := by unfold ten; decide +kernel
theorem t616 : ten 616 < 2 ^ 2047 := by unfold ten; decide +kernel
theorem t154b : ten 154 < BW ^ 8 := by unfold ten BW; decide +kernel
end Go.Proofs.YtoofphhfealcaaaGreatDoor

namespace Go.Proofs.YtoofphhfealcaaaGreatDoor
open Go.RowKit

/-- The digits of x stand in n bytes from o on, from the place v on. -/
def Dig (w : World) (g o n v : Nat) (x : Int) : Prop := ∀ p, v ≤ p → p < n → w.cell? ⟨g, o + p, none⟩ = some (.int .u8 (dgt x (n - 1 - p)))
/-- A row of bytes. -/
def RowB (w : World) (g c : Nat) : Prop := ∃ cur, w.heap[g]? = some (.cells cur 5 (0, 0)) ∧ cur.size = c
/-- Of a row of bytes n cells alone may have changed. -/
structure SegB (w w' : World) (g gc o n : Nat) : Prop where
  row : RowB w' g gc
  out : ∀ p, (p < o ∨ o + n ≤ p) → w'.cell? ⟨g, p, none⟩ = w.cell? ⟨g, p, none⟩
theorem segB_refl {w : World} {g gc : Nat} (h : RowB w g gc) (o n : Nat) : SegB w w g gc o n := ⟨h, fun _ _ => rfl⟩
theorem rowB_cell {w : World} {g gc : Nat} (h : RowB w g gc) (p : Nat) (hp : p < gc) : (∃ u, w.cell? ⟨g, p, none⟩ = some u) ∧ w.frozen? ⟨g, p, none⟩ = false := by
  obtain ⟨cur, h1, h2⟩ := h
  exact ⟨⟨cur[p], by rw [cell_of_row _ _ _ _ _ _ h1]; simp⟩, frozen_of_row _ _ _ _ _ h1⟩
theorem rowB_lt {w : World} {g gc : Nat} (h : RowB w g gc) : g < w.heap.size := by
  obtain ⟨cur, h1, _⟩ := h
  exact (Array.getElem?_eq_some_iff.1 h1).1
theorem rowB_of {w w' : World} {g gc : Nat} (h : RowB w g gc) (he : w'.heap[g]? = w.heap[g]?) : RowB w' g gc := by
  obtain ⟨cur, h1, h2⟩ := h
  exact ⟨cur, by rw [he]; exact h1, h2⟩
theorem segB_same {w w1 w2 : World} {g gc o n : Nat} (h : SegB w w1 g gc o n) (he : w2.heap[g]? = w1.heap[g]?) : SegB w w2 g gc o n :=
  ⟨rowB_of h.row he, fun p hp => by rw [World.cell?_of_block he]; exact h.out p hp⟩
theorem dig_same {w1 w2 : World} {g o n v : Nat} {x : Int} (h : Dig w1 g o n v x) (he : w2.heap[g]? = w1.heap[g]?) : Dig w2 g o n v x := fun p h1 h2 => by
  rw [World.cell?_of_block he]
  exact h p h1 h2
theorem segB_set {w w1 : World} {g gc o n k : Nat} (h : SegB w w1 g gc o n) (hk : o ≤ k ∧ k < o + n) (v : Value) : SegB w (w1.setCell ⟨g, k, none⟩ v) g gc o n := by
  obtain ⟨cur, h1, h2⟩ := h.row
  refine ⟨⟨_, heap_setCell_at w1 g k v cur 5 (0, 0) h1, by simpa using h2⟩, fun p hp => ?_⟩
  rw [World.cell?_setCell_other _ _ _ _ (by intro e; simp at e <;> omega)]
  exact h.out p hp
theorem dig_set {w : World} {g gc o n v : Nat} {x : Int} (h : Dig w g o n (v + 1) x) (hr : RowB w g gc) (hv : v < n) (hgc : o + n ≤ gc) (d : Int) (hd : d = dgt x (n - 1 - v)) : Dig (w.setCell ⟨g, o + v, none⟩ (.int .u8 d)) g o n v x := fun p h1 h2 => by
  subst hd
  by_cases e : p = v
  · subst e
    obtain ⟨⟨u, hu⟩, _⟩ := rowB_cell hr (o + p) (by omega)
    exact World.cell?_setCell_same _ _ _ hu
  · rw [World.cell?_setCell_other _ _ _ _ (by intro e2; simp at e2 <;> omega)]
    exact h p (by omega) h2
/-- The number that stands in a block, as the world has it. -/
def wval (w : World) (b n : Nat) : Int := val ((List.range n).map fun j => match w.cell? ⟨b, j, none⟩ with | some (.int .u64 z) => z | _ => 0)
theorem wval_nat {w : World} {b c : Nat} {xs : List Int} (h : NatB w b c xs) : wval w b xs.length = val xs := by
  unfold wval
  congr 1
  apply List.ext_getElem
  · simp
  · intro j h1 h2
    simp [natB_cell h h2]
def lenOf' (v : Value) : Nat := match v with
  | .slice _ n _ => n
  | _ => 0
/-- What the digits' walk asks of the world. -/
structure ConvPre (w : World) (sb qb qc g gc o n : Nat) (l : List Nat) (xs : List Int) : Prop where
  stk : StkAt w sb l 0
  nb : NatB w qb qc xs
  qc1 : qc ≤ 1048576
  words : Words xs
  nrm : nrm xs = xs
  len : xs.length ≤ 64
  lt : val xs < ten n
  row : RowB w g gc
  fit : o + n ≤ gc
  big : gc ≤ 1048576
  d1 : qb ∉ sb :: l
  d2 : g ∉ sb :: l
  d3 : qb ≠ g
  d4 : ∀ y ∈ qb :: g :: sb :: l, 20 ≤ y
  sz : 20 ≤ w.heap.size
  leaf : w.cell? ⟨12, 0, none⟩ = some (.int .i64 8)
  drt : w.cell? ⟨17, 0, none⟩ = some (.int .i64 40)
/-- What it leaves. -/
def ConvPost (w : World) (sb qb qc g gc o n : Nat) (l : List Nat) (x : Int) (e : Ending) (w' : World) : Prop :=
  (∃ v, e = .returned v) ∧ ∃ l', Dig w' g o n 0 x ∧ SegB w w' g gc o n ∧ RowC w' qb qc ∧ StkAt w' sb l' 0 ∧ (∀ y ∈ l', y ∈ l ∨ w.heap.size ≤ y) ∧ Kp (qb :: g :: sb :: l) w w'
/-- The table's divisors: their words, bits and digits. -/
def wN : Nat → Nat
  | 0 => 8
  | 1 => 16
  | _ => 32
def bN : Nat → Nat
  | 0 => 512
  | 1 => 1024
  | _ => 2047
def dN : Nat → Nat
  | 0 => 154
  | 1 => 308
  | _ => 616
/-- The table. -/
structure TabE (w : World) (tb t : Nat) (bb : Nat → Nat) : Prop where
  t3 : t ≤ 3
  ent : ∀ i, i < t → ∃ V c, w.cell? ⟨tb, i * 3, none⟩ = some (.slice (some ⟨bb i, 0, none⟩) (wN i) c) ∧ w.cell? ⟨tb, i * 3 + 1, none⟩ = some (.int .i64 (bN i)) ∧ w.cell? ⟨tb, i * 3 + 2, none⟩ = some (.int .i64 (dN i)) ∧
    Reads w (bb i) 0 V ∧ V.length = wN i ∧ val V = ten (dN i) ∧ DvOK V (wN i)
theorem reads_kp {w w' : World} {L : List Nat} {b o : Nat} {xs : List Int} (h : Reads w b o xs) (hk : Kp L w w') (hb : b ∉ L) : Reads w' b o xs := fun j hj => hk.cell (h j hj) hb
theorem tab_kp {w w' : World} {L : List Nat} {tb t : Nat} {bb : Nat → Nat} (h : TabE w tb t bb) (hk : Kp L w w') (h1 : tb ∉ L) (h2 : ∀ i, i < t → bb i ∉ L) : TabE w' tb t bb := ⟨h.t3, fun i hi => by
  obtain ⟨V, c, a1, a2, a3, a4, a5, a6, a7⟩ := h.ent i hi
  exact ⟨V, c, hk.cell a1 h1, hk.cell a2 h1, hk.cell a3 h1, reads_kp a4 hk (h2 i hi), a5, a6, a7⟩⟩
theorem tab_less {w : World} {tb t t' : Nat} {bb : Nat → Nat} (h : TabE w tb t bb) (hl : t' ≤ t) : TabE w tb t' bb := ⟨by have := h.t3; omega, fun i hi => h.ent i (by omega)⟩
/-- The digits' walk over a table of t divisors. -/
def ConvC (t : Nat) : Prop := ∀ (sb qb qc g gc o n sc tb tc : Nat) (bb : Nat → Nat) (l : List Nat) (xs : List Int) (w : World), ConvPre w sb qb qc g gc o n l xs → n ≤ sc → TabE w tb t bb → t ≤ tc → (tb ∉ qb :: g :: sb :: l) → (∀ i, i < t → bb i ∉ qb :: g :: sb :: l) → (0 < t ∨ xs.length ≤ 8) →
  Calls Tryz.prog 166 #[.slice (some ⟨qb, 0, none⟩) xs.length qc, .pointer (some ⟨sb, 0, none⟩), .slice (some ⟨g, o, none⟩) n sc, .int .u64 10, .int .i64 19, .int .u64 10000000000000000000, .slice (some ⟨tb, 0, none⟩) t tc] w (ConvPost w sb qb qc g gc o n l (val xs))
def IsNrm (l : List Int) : Prop := nrm l = l
/-- The table is worked off: what is left is written word by word. -/
structure Lf (w wx : World) (sb qb qc g gc o n : Nat) (l : List Nat) (X : Int) (ys : List Int) (n' : Nat) : Prop where
  nb : NatB wx qb qc ys
  words : Words ys
  nrm : nrm ys = ys
  len : ys.length ≤ 64
  le : n' ≤ n
  lt : val ys < ten n'
  eq : val ys = X / ten (n - n')
  dig : Dig wx g o n n' X
  seg : SegB w wx g gc o n
  stk : ∃ l', StkAt wx sb l' 0 ∧ ∀ y ∈ l', y ∈ l ∨ w.heap.size ≤ y
  kp : Kp (qb :: g :: sb :: l) w wx
theorem lf_kp {w wx w2 : World} {sb qb qc g gc o n : Nat} {l : List Nat} {X : Int} {ys : List Int} {n' : Nat} (h : Lf w wx sb qb qc g gc o n l X ys n') (hk : Kp [] wx w2) : Lf w w2 sb qb qc g gc o n l X ys n' := by
  have hg : w2.heap[g]? = wx.heap[g]? := hk.block g (rowB_lt h.seg.row) (by simp)
  obtain ⟨l', a1, a2⟩ := h.stk
  exact ⟨natB_kp h.nb hk (by simp), h.words, h.nrm, h.len, h.le, h.lt, h.eq, dig_same h.dig hg, segB_same h.seg hg, ⟨l', stk_kp a1 hk (by simp), a2⟩, h.kp.trans (kp_mono hk (by simp))⟩
theorem mr_kp {w wr wx : World} {sb qb qc g gc o n : Nat} {l l' rl : List Nat} {X : Int} {ys : List Int} {n' sc' k : Nat} {z2 : Value}
    (h : Lf w wr sb qb qc g gc o n l X ys n' ∧ n' ≤ sc' ∧ (0 < k ∨ ys.length ≤ 8) ∧ StkAt wr sb l' 0 ∧ (∀ y ∈ l', y ∈ l ∨ w.heap.size ≤ y) ∧ ZOK wr z2 rl ∧ (∀ y ∈ rl, w.heap.size ≤ y ∧ y ∉ sb :: l')) (hk : Kp [] wr wx) :
    Lf w wx sb qb qc g gc o n l X ys n' ∧ n' ≤ sc' ∧ (0 < k ∨ ys.length ≤ 8) ∧ StkAt wx sb l' 0 ∧ (∀ y ∈ l', y ∈ l ∨ w.heap.size ≤ y) ∧ ZOK wx z2 rl ∧ (∀ y ∈ rl, w.heap.size ≤ y ∧ y ∉ sb :: l') := by
  obtain ⟨a1, a2, a3, a4, a5, a6, a7⟩ := h
  exact ⟨lf_kp a1 hk, a2, a3, stk_kp a4 hk (by simp), a5, zok_kp a6 hk (by simp), a7⟩
theorem conv_div {w wc : World} {sb qb qc g gc o n tb t i sc' n' k : Nat} {bb : Nat → Nat} {l l' rl : List Nat} {xs ys : List Int} {z2 : Value} (hp : ConvPre w sb qb qc g gc o n l xs)
    (hm : Lf w wc sb qb qc g gc o n l (val xs) ys n' ∧ n' ≤ sc' ∧ (0 < k ∨ ys.length ≤ 8) ∧ StkAt wc sb l' 0 ∧ (∀ y ∈ l', y ∈ l ∨ w.heap.size ≤ y) ∧ ZOK wc z2 rl ∧ (∀ y ∈ rl, w.heap.size ≤ y ∧ y ∉ sb :: l'))
    (ht : TabE w tb t bb) (htb : tb ∉ qb :: g :: sb :: l) (hbb : ∀ i, i < t → bb i ∉ qb :: g :: sb :: l) (hi : i < t) (hle : ten (dN i) ≤ val ys) :
    ∃ V vc, wc.cell? ⟨tb, i * 3, none⟩ = some (.slice (some ⟨bb i, 0, none⟩) (wN i) vc) ∧ wc.cell? ⟨tb, i * 3 + 2, none⟩ = some (.int .i64 (dN i)) ∧ val V = ten (dN i) ∧
      Calls Tryz.prog 195 #[.slice (some ⟨qb, 0, none⟩) ys.length qc, .pointer (some ⟨sb, 0, none⟩), z2, .slice (some ⟨qb, 0, none⟩) ys.length qc, .slice (some ⟨bb i, 0, none⟩) (wN i) vc] wc (DivPost wc sb qb qc l' rl ys V) := by
  obtain ⟨m1, m2, m3, m4, m5, m6, m7⟩ := hm
  obtain ⟨V0, vc0, a1, a2, a3, a4, a5, a6, a7⟩ := ht.ent i hi
  have hk := m1.kp
  have b1 := natB_lt hp.nb
  have b2 : bb i < w.heap.size := reads_lt a4 (by rw [a5]; have := a7.n5; omega)
  have d1 := hp.d1
  have d4 := hp.d4
  have hs := hp.sz
  have hb := hbb i hi
  simp only [List.mem_cons, not_or] at d1 hb
  have hsb := stk_lt hp.stk sb (by simp)
  refine ⟨V0, vc0, hk.cell a1 htb, hk.cell a3 htb, a6, div_any qb qc sb (bb i) vc0 (wN i) ys.length z2 l' rl ys V0 wc a7 rfl (by omega) (by have := m1.len; omega) m1.words m1.nrm m4 m1.nb hp.qc1 (reads_kp a4 hk (hbb i hi)) m6 ?_ ?_ (fun x hx => (m7 x hx).2) ?_ (by have := hk.size; omega) (hk.cell hp.drt (fun h => by have := d4 17 h; omega))⟩
  · simp only [List.mem_cons, List.mem_append, not_or]
    refine ⟨d1.1, fun h => ?_, fun h => ?_⟩
    · rcases m5 _ h with h | h
      · exact d1.2 h
      · omega
    · have := (m7 _ h).1
      omega
  · simp only [List.mem_cons, List.mem_append, not_or]
    refine ⟨hb.1, hb.2.2.1, fun h => ?_, fun h => ?_⟩
    · rcases m5 _ h with h | h
      · exact hb.2.2.2 h
      · omega
    · have := (m7 _ h).1
      omega
  · intro x hx
    simp only [List.mem_cons, List.mem_append] at hx
    rcases hx with rfl | rfl | h | h
    · exact d4 _ (by simp)
    · exact d4 _ (by simp)
    · rcases m5 _ h with h | h
      · exact d4 _ (by simp [h])
      · omega
    · have := (m7 _ h).1
      omega
theorem div_fits {i B : Nat} {x : Int} (hB : 513 ≤ B) (h : i = 0 ∨ bN (i - 1) ≤ B / 2) (hi : i < 3) (hx : (2 : Int) ^ (B - 1) ≤ x) (hne : ¬ (i = 1 ∧ B = 1024)) : bN i < B ∧ ten (dN i) ≤ x := by
  have h3 : i = 0 ∨ i = 1 ∨ i = 2 := by omega
  rcases h3 with rfl | rfl | rfl
  · have := t154
    have h2 := two_mono (show 512 ≤ B - 1 by omega)
    refine ⟨by simp only [bN]; omega, ?_⟩
    show ten 154 ≤ x
    omega
  · have := t308
    have hb : bN (1 - 1) ≤ B / 2 := by
      rcases h with h | h
      · omega
      · exact h
    simp only [bN] at hb
    have h2 := two_mono (show 1024 ≤ B - 1 by omega)
    refine ⟨by simp only [bN]; omega, ?_⟩
    show ten 308 ≤ x
    omega
  · have := t616
    have hb : bN (2 - 1) ≤ B / 2 := by
      rcases h with h | h
      · omega
      · exact h
    simp only [bN] at hb
    have h2 := two_mono (show 2047 ≤ B - 1 by omega)
    refine ⟨by simp only [bN]; omega, ?_⟩
    show ten 616 ≤ x
    omega
theorem len_of_lt {R ys : List Int} (hR : Words R) (hn : nrm R = R) (hy : Words ys) (h : val R ≤ val ys) : R.length ≤ ys.length := by
  refine Classical.byContradiction fun hc => ?_
  have := val_shorter hy hR hn (by omega)
  omega
/-- What the walk has after the division by the divisor of nd digits. -/
structure AftD (w w2 : World) (sb qb qc ub uc g gc o n nd : Nat) (l l2 : List Nat) (X : Int) (Q R ys : List Int) (n' : Nat) : Prop where
  le : nd < n'
  n'le : n' ≤ n
  nb : NatB w2 qb qc Q
  words : Words Q
  nrm : nrm Q = Q
  len : Q.length ≤ 64
  lt : val Q < ten (n' - nd)
  eq : val Q = X / ten (n - (n' - nd))
  less : val Q < val ys
  R1 : val R = (X / ten (n - n')) % ten nd
  dig : Dig w2 g o n n' X
  seg : SegB w w2 g gc o n
  pre : ConvPre w2 sb ub uc g gc (o + (n' - nd)) nd l2 R
  l2s : ∀ y ∈ l2, y ∈ l ∨ w.heap.size ≤ y
  new : w.heap.size ≤ ub ∧ ub ≠ qb ∧ ub < w2.heap.size
  qn : qb ∉ ub :: g :: sb :: l2
  kp : Kp (qb :: g :: sb :: l) w w2
theorem conv_sub {w wc w2 : World} {sb qb qc ub uc g gc o n nd sc' n' k : Nat} {l l' l2 rl : List Nat} {xs ys V Q R : List Int} {z2 : Value} (hp : ConvPre w sb qb qc g gc o n l xs)
    (hm : Lf w wc sb qb qc g gc o n l (val xs) ys n' ∧ n' ≤ sc' ∧ (0 < k ∨ ys.length ≤ 8) ∧ StkAt wc sb l' 0 ∧ (∀ y ∈ l', y ∈ l ∨ w.heap.size ≤ y) ∧ ZOK wc z2 rl ∧ (∀ y ∈ rl, w.heap.size ≤ y ∧ y ∉ sb :: l'))
    (hnd : 0 < nd) (hle : ten nd ≤ val ys) (hV : val V = ten nd)
    (hd : (NatB w2 qb qc Q ∧ Words Q ∧ nrm Q = Q ∧ val Q = val ys / val V) ∧ (NatB w2 ub uc R ∧ Words R ∧ nrm R = R ∧ val R = val ys % val V) ∧ uc ≤ 1048576 ∧ ub ≠ qb ∧ (ub ∈ rl ∨ wc.heap.size ≤ ub) ∧
      StkAt w2 sb l2 0 ∧ (∀ x ∈ l2, x ∈ l' ∨ wc.heap.size ≤ x) ∧ ub ∉ sb :: l2 ∧ Kp (qb :: sb :: (l' ++ rl)) wc w2) :
    AftD w w2 sb qb qc ub uc g gc o n nd l l2 (val xs) Q R ys n' := by
  obtain ⟨m1, m2, m3, m4, m5, m6, m7⟩ := hm
  obtain ⟨⟨e1, e2, e3, e4⟩, ⟨f1, f2, f3, f4⟩, g1, g2, g3, g4, g5, g6, g7⟩ := hd
  have hk := m1.kp
  have hs := hk.size
  have hs2 := g7.size
  have b1 := natB_lt hp.nb
  have b2 := rowB_lt hp.row
  have b3 := stk_lt hp.stk
  have b4 := b3 sb (by simp)
  have d1 := hp.d1
  have d2 := hp.d2
  have d4 := hp.d4
  have h20 := hp.sz
  have hfit := hp.fit
  have hn'n := m1.le
  simp only [List.mem_cons, not_or] at d1 d2
  have hub : w.heap.size ≤ ub := by
    rcases g3 with h | h
    · exact (m7 _ h).1
    · omega
  have hl2 : ∀ y ∈ l2, y ∈ l ∨ w.heap.size ≤ y := fun y hy => by
    rcases g5 y hy with h | h
    · exact m5 y h
    · exact .inr (by omega)
  have hgd : g ∉ qb :: sb :: (l' ++ rl) := by
    simp only [List.mem_cons, List.mem_append, not_or]
    refine ⟨Ne.symm hp.d3, d2.1, fun h => ?_, fun h => ?_⟩
    · rcases m5 _ h with h | h
      · exact d2.2 h
      · omega
    · have := (m7 _ h).1
      omega
  have hkp : Kp (qb :: g :: sb :: l) w w2 := kp_step hk g7 (fun x hx => by
    simp only [List.mem_cons, List.mem_append] at hx ⊢
    rcases hx with h | h | h | h
    · exact .inl (.inl h)
    · exact .inl (.inr (.inr (.inl h)))
    · rcases m5 _ h with h | h
      · exact .inl (.inr (.inr (.inr h)))
      · exact .inr h
    · exact .inr (m7 _ h).1)
  have hgw : w2.heap[g]? = wc.heap[g]? := g7.block g (by omega) hgd
  have ht1 : 10 ≤ ten nd := by
    have := ten_mono (show 1 ≤ nd by omega)
    have h1 : ten 1 = 10 := by unfold ten; decide
    omega
  have hlt : nd < n' := by
    refine Classical.byContradiction fun hc => ?_
    have := ten_mono (show n' ≤ nd by omega)
    have := m1.lt
    omega
  have hy0 := val_nonneg _ m1.words
  rw [hV] at e4 f4
  have hQl : val Q < val ys := by
    rw [e4]
    exact Int.ediv_lt_of_lt_mul (by omega) (by
      have := Int.mul_le_mul_of_nonneg_left ht1 hy0
      omega)
  have hlen := m1.len
  have hRy : val R ≤ val ys := by
    rw [f4]
    have h1 := Int.emod_lt_of_pos (val ys) (show 0 < ten nd by omega)
    omega
  have h12 : ∀ x, x < 20 → x ∉ qb :: g :: sb :: l := fun x hx h => by have := d4 x h; omega
  refine ⟨hlt, hn'n, e1, e2, e3, by have := len_of_lt e2 e3 m1.words (by omega); omega, ?_, ?_, hQl, by rw [f4, m1.eq], dig_same m1.dig hgw, segB_same m1.seg hgw, ?_, hl2, ⟨hub, g2, natB_lt f1⟩, ?_, hkp⟩
  · rw [e4]
    refine Int.ediv_lt_of_lt_mul (by omega) ?_
    rw [← ten_add, show n' - nd + nd = n' by omega]
    exact m1.lt
  · rw [e4, m1.eq, Int.ediv_ediv_of_nonneg (by have := ten_pos (n - n'); omega), ← ten_add, show n - n' + nd = n - (n' - nd) by omega]
  · refine ⟨g4, f1, g1, f2, f3, by have := len_of_lt f2 f3 m1.words hRy; omega, by rw [f4]; exact Int.emod_lt_of_pos _ (by omega), (segB_same m1.seg hgw).row, by omega, hp.big, g6, ?_, by omega, ?_, by have := hkp.size; omega, hkp.cell hp.leaf (h12 12 (by omega)), hkp.cell hp.drt (h12 17 (by omega))⟩
    · simp only [List.mem_cons, not_or]
      refine ⟨d2.1, fun h => ?_⟩
      rcases hl2 _ h with h | h
      · exact d2.2 h
      · omega
    · intro y hy
      simp only [List.mem_cons] at hy
      rcases hy with rfl | rfl | rfl | h
      · omega
      · exact d4 _ (by simp)
      · exact d4 _ (by simp)
      · rcases hl2 _ h with h | h
        · exact d4 _ (by simp [h])
        · omega
  · simp only [List.mem_cons, not_or]
    refine ⟨Ne.symm g2, hp.d3, d1.1, fun h => ?_⟩
    rcases hl2 _ h with h | h
    · exact d1.2 h
    · omega
theorem conv_next {w w2 w4 : World} {sb qb qc ub uc g gc o n nd sc' n' k : Nat} {l l2 : List Nat} {X : Int} {Q R ys : List Int} {e : Ending} (hp : w.heap.size ≤ w2.heap.size)
    (ha : AftD w w2 sb qb qc ub uc g gc o n nd l l2 X Q R ys n') (hsc : n' ≤ sc') (hk : 0 < k) (hc : ConvPost w2 sb ub uc g gc (o + (n' - nd)) nd l2 (val R) e w4) :
    ∃ l4, Lf w w4 sb qb qc g gc o n l X Q (n' - nd) ∧ n' - nd ≤ sc' ∧ (0 < k ∨ Q.length ≤ 8) ∧ StkAt w4 sb l4 0 ∧ (∀ y ∈ l4, y ∈ l ∨ w.heap.size ≤ y) ∧ ZOK w4 (.slice (some ⟨ub, 0, none⟩) R.length uc) [ub] ∧ (∀ y ∈ [ub], w.heap.size ≤ y ∧ y ∉ sb :: l4) := by
  obtain ⟨_, l4, c1, c2, c3, c4, c5, c6⟩ := hc
  have hnd := ha.le
  have hnn := ha.n'le
  have hnew := ha.new
  have hl4 : ∀ y ∈ l4, y ∈ l ∨ w.heap.size ≤ y := fun y hy => by
    rcases c5 y hy with h | h
    · exact ha.l2s y h
    · exact .inr (by omega)
  have hub := ha.pre.d1
  refine ⟨l4, ⟨natB_kp ha.nb c6 ha.qn, ha.words, ha.nrm, ha.len, by omega, ha.lt, ha.eq, ?_, ?_, ⟨l4, c4, hl4⟩, ?_⟩, by omega, .inl hk, c4, hl4, .inr ⟨ub, _, uc, rfl, rfl, c3, ha.pre.qc1⟩, ?_⟩
  · intro p h1 h2
    by_cases hpn : n' ≤ p
    · rw [c2.out (o + p) (by omega)]
      exact ha.dig p hpn h2
    · have h3 := c1 (p - (n' - nd)) (by omega) (by omega)
      rw [show o + (n' - nd) + (p - (n' - nd)) = o + p by omega] at h3
      rw [h3, ha.R1, dgt_mod _ _ _ (by omega), dgt_div]
      congr 3
      omega
  · refine ⟨c2.row, fun p h1 => ?_⟩
    rw [c2.out p (by omega)]
    exact ha.seg.out p h1
  · refine kp_step ha.kp c6 (fun x hx => ?_)
    simp only [List.mem_cons] at hx ⊢
    rcases hx with rfl | h | h | h
    · exact .inr hnew.1
    · exact .inl (.inr (.inl h))
    · exact .inl (.inr (.inr (.inl h)))
    · rcases ha.l2s _ h with h | h
      · exact .inl (.inr (.inr (.inr h)))
      · exact .inr h
  · intro y hy
    simp only [List.mem_cons, List.mem_nil_iff, or_false] at hy
    subst hy
    refine ⟨hnew.1, ?_⟩
    simp only [List.mem_cons, not_or] at hub ⊢
    refine ⟨hub.1, fun h => ?_⟩
    rcases c5 _ h with h | h
    · exact hub.2 h
    · omega
theorem pre_kp {w w2 : World} {sb qb qc g gc o n : Nat} {l : List Nat} {xs : List Int} (h : ConvPre w sb qb qc g gc o n l xs) (hk : Kp [] w w2) : ConvPre w2 sb qb qc g gc o n l xs :=
  ⟨stk_kp h.stk hk (by simp), natB_kp h.nb hk (by simp), h.qc1, h.words, h.nrm, h.len, h.lt, rowB_of h.row (hk.block g (rowB_lt h.row) (by simp)), h.fit, h.big, h.d1, h.d2, h.d3, h.d4, by have := h.sz; have := hk.size; omega, hk.cell h.leaf (by simp), hk.cell h.drt (by simp)⟩
theorem aft_kp {w w2 w3 : World} {sb qb qc ub uc g gc o n nd n' : Nat} {l l2 : List Nat} {X : Int} {Q R ys : List Int} (h : AftD w w2 sb qb qc ub uc g gc o n nd l l2 X Q R ys n') (hk : Kp [] w2 w3) : AftD w w3 sb qb qc ub uc g gc o n nd l l2 X Q R ys n' := by
  have hg : w3.heap[g]? = w2.heap[g]? := hk.block g (rowB_lt h.seg.row) (by simp)
  exact ⟨h.le, h.n'le, natB_kp h.nb hk (by simp), h.words, h.nrm, h.len, h.lt, h.eq, h.less, h.R1, dig_same h.dig hg, segB_same h.seg hg, pre_kp h.pre hk, h.l2s, ⟨h.new.1, h.new.2.1, by have := h.new.2.2; have := hk.size; omega⟩, h.qn, h.kp.trans (kp_mono hk (by simp))⟩
theorem tab_off {w : World} {x qb ub g sb : Nat} {l l2 : List Nat} (hx : x < w.heap.size) (hn : x ∉ qb :: g :: sb :: l) (hu : w.heap.size ≤ ub) (hl : ∀ y ∈ l2, y ∈ l ∨ w.heap.size ≤ y) : x ∉ ub :: g :: sb :: l2 := by
  simp only [List.mem_cons, not_or] at hn ⊢
  refine ⟨by omega, hn.2.1, hn.2.2.1, fun h => ?_⟩
  rcases hl x h with h | h
  · exact hn.2.2.2 h
  · omega
theorem reads_tab {w : World} {tb t i : Nat} {bb : Nat → Nat} (h : TabE w tb t bb) (hi : i < t) : tb < w.heap.size := by
  obtain ⟨V, c, a1, _⟩ := h.ent i hi
  exact World.block_lt_of_cell? w _ a1
theorem reads_ent {w : World} {tb t i : Nat} {bb : Nat → Nat} (h : TabE w tb t bb) (hi : i < t) : bb i < w.heap.size := by
  obtain ⟨V, c, a1, a2, a3, a4, a5, a6, a7⟩ := h.ent i hi
  exact reads_lt a4 (by rw [a5]; have := a7.n5; omega)
/-- The remainder by the smallest divisor has eight words at the most. -/
theorem len_eight {R : List Int} {j : Nat} (hw : Words R) (hn : nrm R = R) (hlt : val R < ten (dN j)) : 0 < j ∨ R.length ≤ 8 := by
  by_cases h0 : 0 < j
  · exact .inl h0
  · obtain rfl : j = 0 := by omega
    refine .inr (Classical.byContradiction fun hc => ?_)
    obtain ⟨k, hk⟩ : ∃ k, R.length = k + 1 := ⟨R.length - 1, by omega⟩
    have h1 := top_ge hw hn hk
    have h2 := bwp_mono (show 8 ≤ k by omega)
    have h3 := t154b
    have h4 : val R < ten 154 := hlt
    generalize (BW : Int) ^ 8 = A at *
    generalize (BW : Int) ^ k = A2 at *
    omega
set_option maxRecDepth 100000 in
set_option maxHeartbeats 8000000 in
theorem conv_gen (sb qb qc g gc o n sc : Nat) (tv : Value) (l : List Nat) (xs : List Int) (w : World) (hp : ConvPre w sb qb qc g gc o n l xs) (hsc : n ≤ sc) (ht : (tv = .slice none 0 0 ∧ xs.length ≤ 8) ∨ ∃ (tb t tc : Nat) (bb : Nat → Nat), tv = .slice (some ⟨tb, 0, none⟩) t tc ∧ TabE w tb t bb ∧ t ≤ tc ∧ (tb ∉ qb :: g :: sb :: l) ∧ (∀ i, i < t → bb i ∉ qb :: g :: sb :: l) ∧ (0 < t ∨ xs.length ≤ 8) ∧ ∀ t', t' < t → ConvC t') :
    Calls Tryz.prog 166 #[.slice (some ⟨qb, 0, none⟩) xs.length qc, .pointer (some ⟨sb, 0, none⟩), .slice (some ⟨g, o, none⟩) n sc, .int .u64 10, .int .i64 19, .int .u64 10000000000000000000, tv] w (ConvPost w sb qb qc g gc o n l (val xs)) := by
  obtain ⟨bt, ⟨hbt, hbg⟩, hb2⟩ : ∃ bt : Bool, ((∀ W, (binOp .neq 249 tv (.slice none 0 0)).run Tryz.prog W = .ok (.bool bt) W) ∧ (∀ W, (eqGuard .neq 249 (.tmp 24) (.const (.slice none 0 0)) tv (.slice none 0 0)).run Tryz.prog W = .ok () W)) ∧ ((bt = false ∧ xs.length ≤ 8) ∨ (bt = true ∧ ∃ (tb t tc : Nat) (bb : Nat → Nat), tv = .slice (some ⟨tb, 0, none⟩) t tc ∧ TabE w tb t bb ∧ t ≤ tc ∧ (tb ∉ qb :: g :: sb :: l) ∧ (∀ i, i < t → bb i ∉ qb :: g :: sb :: l) ∧ (0 < t ∨ xs.length ≤ 8) ∧ ∀ t', t' < t → ConvC t')) := by
    have hu : Tryz.prog.underlying 249 = some (.slice 275) := by kernel_rfl
    rcases ht with ⟨rfl, h8⟩ | ⟨tb, t, tc, bb, rfl, h1⟩
    · refine ⟨false, ⟨fun W => ?_, fun W => by simp [eqGuard, go_sem]⟩, .inl ⟨rfl, h8⟩⟩
      have h : ∀ d : Nat, (Op.equalIn (d + 1) 249 (.slice none 0 0) (.slice none 0 0)).run Tryz.prog W = .ok true W := fun d => by simp [Op.equalIn, run_underlying hu]
      simp only [binOp]
      simp [Op.equal, Op.maxDepth, h 9999]
    · refine ⟨true, ⟨fun W => ?_, fun W => by simp [eqGuard, go_sem]⟩, .inr ⟨rfl, tb, t, tc, bb, rfl, h1⟩⟩
      have h : ∀ d : Nat, (Op.equalIn (d + 1) 249 (.slice (some ⟨tb, 0, none⟩) t tc) (.slice none 0 0)).run Tryz.prog W = .ok false W := fun d => by simp [Op.equalIn, run_underlying hu]
      simp only [binOp]
      simp [Op.equal, Op.maxDepth, h 9999]
  have HP := Lib.hid hp; have HT := Lib.hid ht; have HB2 := Lib.hid hb2
  clear hp ht hb2
  go_enter Tryz.func166, Tryz.ntmps166
  go_upto_if 25 with fail
  go_cut [0, 2, 14, 15, 16, 17, 18] from 24 to 109 (fun qv sv _ _ _ _ _ wx => ∃ ys n' sc', qv = .slice (some ⟨qb, 0, none⟩) ys.length qc ∧ sv = .slice (some ⟨g, o, none⟩) n' sc' ∧ Hid (Lf w wx sb qb qc g gc o n l (val xs) ys n'))
  case first =>
    rcases HB2.out with ⟨rfl, h8⟩ | ⟨rfl, tb, t, tc, bb, rfl, t1, t2, t3, t4, t5, t6⟩
    rotate_left
    · have TE := Lib.hid t1; have TC := Lib.hid t2; have TD := Lib.hid t3; have TB := Lib.hid t4; have T8 := Lib.hid t5; have IH := Lib.hid t6
      clear t1 t2 t3 t4 t5 t6 HB2 HT hbt hbg
      go_upto_region 3 with fail
      go_loopw [0, 2, 14, 15] (fun q s r ix wr => ∃ (ys : List Int) (n' sc' k : Nat) (z2 : Value) (l' rl : List Nat), q = .slice (some ⟨qb, 0, none⟩) ys.length qc ∧ s = .slice (some ⟨g, o, none⟩) n' sc' ∧ r = z2 ∧ ix = .int .i64 ((k : Int) - 1) ∧ k ≤ t ∧
        Hid (Lf w wr sb qb qc g gc o n l (val xs) ys n' ∧ n' ≤ sc' ∧ (0 < k ∨ ys.length ≤ 8) ∧ StkAt wr sb l' 0 ∧ (∀ y ∈ l', y ∈ l ∨ w.heap.size ≤ y) ∧ ZOK wr z2 rl ∧ (∀ y ∈ rl, w.heap.size ≤ y ∧ y ∉ sb :: l'))) (fun q _ _ _ wr => (wval wr qb (lenOf' q)).toNat)
      case atStart =>
        have p := HP.out
        exact ⟨xs, n, sc, t, .slice none 0 0, l, [], rfl, rfl, rfl, by rw [show wrap64 ((t : Int) - 1) = (t : Int) - 1 by have := TE.out.t3; unfold wrap64; omega], Nat.le_refl _, ⟨p.nb, p.words, p.nrm, p.len, Nat.le_refl _, p.lt, by rw [Nat.sub_self, ten_zero, Int.ediv_one], fun q h1 h2 => by omega, segB_refl p.row _ _, ⟨l, p.stk, fun y h => .inl h⟩, Kp.refl _ _⟩, hsc, T8.out, p.stk, fun y h => .inl h, .inl ⟨rfl, rfl⟩, fun y h => by simp at h⟩
      case round =>
        obtain ⟨ys, n', sc', k, z2, l', rl, rfl, rfl, rfl, rfl, hkt, HI⟩ := hrel
        have hg12 : wr.cell? ⟨12, 0, none⟩ = some (.int .i64 8) ∧ wr.cell? ⟨17, 0, none⟩ = some (.int .i64 40) := by
          have p := HP.out
          have h12 : ∀ x, x < 20 → x ∉ qb :: g :: sb :: l := fun x hx h => by have := p.d4 x h; omega
          exact ⟨HI.out.1.kp.cell p.leaf (h12 12 (by omega)), HI.out.1.kp.cell p.drt (h12 17 (by omega))⟩
        obtain ⟨hg12, hg17⟩ := hg12
        have HG17 := Lib.hid hg17
        clear hg17
        by_cases h8 : 8 < ys.length
        · obtain ⟨hLf, hsc', hk8, hst, hl', hz, hrl⟩ := HI.out
          have hk : 0 < k := by
            rcases hk8 with h | h
            · exact h
            · omega
          obtain ⟨b1, b2, b3⟩ := bl_bounds hLf.words hLf.nrm (by omega)
          have hlen := hLf.len
          have HBL := Lib.hid (bitLen_any qb qc ys wr (by omega) (by omega) hLf.nb.rds hLf.words)
          have hB6 : blOf ys ≤ 4096 := by
            refine Classical.byContradiction fun hc => ?_
            have h1 := val_lt ys hLf.words
            have h2 := bwp_mono hlen
            have h3 := two_mono (show 4096 ≤ blOf ys - 1 by omega)
            have h4 := bw_two 64
            rw [show 64 * 64 = 4096 from rfl] at h4
            generalize (BW : Int) ^ 64 = A at *
            generalize (2 : Int) ^ 4096 = A2 at *
            omega
          obtain ⟨B, hB⟩ : ∃ B, B = blOf ys := ⟨_, rfl⟩
          rw [← hB] at HBL b1 b2 b3 hB6
          have hB5 : 513 ≤ B := by omega
          have B1 := Lib.hid b1; have B2 := Lib.hid b2
          have hkt3 := TE.out.t3
          clear hLf hsc' hk8 hst hl' hz hrl b1 b2 b3 hB hlen
          go_upto_region 5 with (go_at_call 159; refine HBL.out.mono ?_; rintro e w2 ⟨rfl, rfl⟩)
          go_upto_block 2 with fail
          have TW : TabE wr tb t bb := tab_kp TE.out HI.out.1.kp TD.out TB.out
          have TWH := Lib.hid TW
          clear TW
          obtain ⟨bn, hbn⟩ : ∃ bn : Nat → Nat, bn = bN := ⟨_, rfl⟩
          have HBN := Lib.hid hbn
          clear hbn
          go_cut [15] from 29 to 108 (fun ix wx => ∃ i : Nat, ix = .int .i64 i ∧ i < k ∧ Hid (i = 0 ∨ bn (i - 1) ≤ B / 2) ∧ wx = wr)
          case first =>
            go_wp2_with fail
            go_loopw [15] (fun ix wx => ∃ i : Nat, ix = .int .i64 i ∧ i < k ∧ wx = wr) (fun ix _ => (intOf ix).toNat)
            case atStart => exact ⟨k - 1, by rw [show ((k - 1 : Nat) : Int) = (k : Int) - 1 by omega], by omega, rfl⟩
            case round =>
              obtain ⟨i, rfl, hik, rfl⟩ := hrel
              by_cases hi0 : 0 < i
              · obtain ⟨i, rfl⟩ : ∃ j, i = j + 1 := ⟨i - 1, by omega⟩
                have he := (TWH.out.ent i (by omega)).choose_spec.choose_spec.2.1
                rw [← HBN.out] at he
                by_cases hg2 : B / 2 < bn i
                · go_wp2_with fail
                  exact ⟨⟨i, rfl, by omega, trivial⟩, by simp [intOf] <;> omega⟩
                · go_wp2_with fail
                  go_meet
                  exact ⟨i + 1, rfl, hik, .inr (by simpa using Nat.le_of_not_lt hg2), rfl⟩
              · obtain rfl : i = 0 := by omega
                go_wp2_with fail
                go_meet
                exact ⟨0, rfl, hik, .inl rfl, rfl⟩
          case rest =>
            obtain ⟨i, rfl, hik, HB8, hwc⟩ := hcut
            obtain rfl := hwc.symm
            clear hwc
            have H8 : Hid (i = 0 ∨ bN (i - 1) ≤ B / 2) := by rw [← HBN.out]; exact HB8.out
            clear HB8
            have he2 := (TWH.out.ent i (by omega)).choose_spec.choose_spec.2.1
            rw [← HBN.out] at he2
            go_upto_region 8 with fail
            go_cut [67] from 29 to 108 (fun c wx => ∃ (b : Bool) (nn : Nat), c = .bool b ∧ Hid (b = true → i = 1 ∧ ten (dN 0) ≤ val ys) ∧ Hid (b = false → ten (dN i) ≤ val ys) ∧ wx = wr.drewN nn)
            case first =>
              by_cases hc : i = 1 ∧ B = 1024
              · obtain ⟨rfl, rfl⟩ := hc
                have f1 : ¬ bn 1 < 1024 := by rw [HBN.out]; simp [bN]
                obtain ⟨V, vc, v1, v2, v3, v4, v5, v6, v7⟩ := TWH.out.ent 1 (by omega)
                have p := HI.out.1
                have hw16 : V.length = 16 := v5
                have HC := Lib.hid (cmp_any (bb 1) vc qb qc V ys wr v7.words p.words v7.nrm p.nrm (by omega) (by have := p.len; omega) v4 p.nb.rds)
                rw [hw16] at HC
                have HV6 : Hid (val V = ten (dN 1)) := Lib.hid v6
                have hv1 : wr.cell? ⟨tb, 1 * 3, none⟩ = some (.slice (some ⟨bb 1, 0, none⟩) ((16 : Nat)) vc) := v1
                clear v1 v2 v3 v4 v5 v6 v7 p hw16
                go_wp2_with (go_at_call 194; refine HC.out.mono ?_; rintro e w2 ⟨r, rfl, hr, nn, rfl⟩; have HR := Lib.hid hr; clear hr)
                go_meet
                refine ⟨decide (0 ≤ r), nn, rfl, Lib.hid fun h => ⟨by trivial, ?_⟩, Lib.hid fun h => ?_, rfl⟩
                · have h1 := B1.out
                  have h2 := two_mono (show 512 ≤ 1024 - 1 by omega)
                  have h3 := t154
                  show ten 154 ≤ val ys
                  omega
                · have h1 := HR.out
                  have h2 := HV6.out
                  have h3 : ¬ 0 ≤ r := by simpa using h
                  unfold CmpR at h1
                  omega
              · obtain ⟨f1, f2⟩ := div_fits hB5 H8.out (by omega) B1.out hc
                rw [← HBN.out] at f1
                go_wp2_with fail
                go_meet
                exact ⟨false, 0, rfl, fun h => by simp at h, fun _ => f2, rfl⟩
            case rest =>
              obtain ⟨b, nn, rfl, HT1, HT0, hwc⟩ := hcut
              have HK0 : Hid (Kp [] wr wc) := by rw [hwc]; exact (Kp.refl _ _).drewN nn
              clear hwc he2
              go_upto_if 67 with fail
              go_cut [15] from 29 to 108 (fun ix wx => ∃ j : Nat, ix = .int .i64 j ∧ j < k ∧ Hid (ten (dN j) ≤ val ys) ∧ Hid (Kp [] wr wx))
              case first =>
                cases b
                · go_wp2_with fail
                  go_meet
                  exact ⟨i, rfl, hik, Lib.hid (HT0.out (by trivial)), HK0⟩
                · obtain ⟨rfl, h1⟩ := HT1.out (by trivial)
                  go_wp2_with fail
                  go_meet
                  exact ⟨0, rfl, by omega, Lib.hid h1, HK0⟩
              case rest =>
                obtain ⟨j, rfl, hjk, HLE, HKX⟩ := hcut
                clear HT0 HT1 HK0
                have HM := Lib.hid (mr_kp HI.out HKX.out)
                obtain ⟨V, vc, c1, c2, c3, c4⟩ := conv_div HP.out HM.out TE.out TD.out TB.out (show j < t by omega) HLE.out
                have HDV := Lib.hid c4; have HV := Lib.hid c3
                obtain ⟨nd, hnd⟩ : ∃ nd, nd = dN j := ⟨_, rfl⟩
                obtain ⟨nw, hnw⟩ : ∃ nw, nw = wN j := ⟨_, rfl⟩
                rw [← hnw] at HDV c1
                rw [← hnd] at c2
                have HND := Lib.hid hnd; have HC2 := Lib.hid c2
                clear c4 c3 hnd hnw c2
                go_upto_region 13 with (go_at_call 195; refine HDV.out.mono ?_; rintro e w2 ⟨Q, R, ub, uc, l2, rfl, q⟩; have HQ := Lib.hid q; clear q)
                have hnd0 : 0 < nd := by rw [HND.out]; unfold dN; split <;> omega
                have HA := Lib.hid (conv_sub HP.out HM.out hnd0 (by rw [HND.out]; exact HLE.out) (by rw [HND.out]; exact HV.out) HQ.out)
                have TW2 := Lib.hid (tab_kp TE.out HA.out.kp TD.out TB.out)
                have hc2 := (TW2.out.ent j (by omega)).choose_spec.choose_spec.2.2.1
                rw [← HND.out] at hc2
                have hlt := HA.out.le
                have hscb := HM.out.2.1
                have hnn := HA.out.n'le
                have hn5 : n ≤ 1048576 := by have := HP.out.fit; have := HP.out.big; omega
                obtain ⟨h, hh⟩ : ∃ h, n' - nd = h := ⟨_, rfl⟩
                have hnh : (n' : Int) - nd = h := by omega
                have HH := Lib.hid hh
                clear hh HQ HDV
                go_upto_region 14 with fail
                obtain ⟨cp, hcp⟩ : ∃ cp, sc' - h = cp := ⟨_, rfl⟩
                have i2 : n' - h = nd := by have := HH.out; omega
                have i3 : h ≤ n' := by omega
                have i5 : ¬ sc' = h := by omega
                have i6 : ¬ tc = 0 := by have := TC.out; omega
                have i7 : j ≤ tc := by have := TC.out; omega
                have HA2 := Lib.hid (aft_kp HA.out ((Kp.refl [] w2).drewN 1))
                have hub2 : w.heap.size ≤ ub := HA.out.new.1
                have HIH := Lib.hid (IH.out j (by omega) sb ub uc g gc (o + h) nd cp tb tc bb l2 R (w2.drewN 1) (by have := HA2.out.pre; rw [HH.out] at this; exact this) (by omega)
                  (tab_less (tab_kp TE.out HA2.out.kp TD.out TB.out) (by omega)) i7
                  (tab_off (reads_tab TE.out (show j < t by omega)) TD.out hub2 HA.out.l2s) (fun i hi => tab_off (reads_ent TE.out (show i < t by omega)) (TB.out i (by omega)) hub2 HA.out.l2s) (len_eight HA.out.pre.words HA.out.pre.nrm (by have := HA.out.pre.lt; rw [← HND.out]; exact this)))
                go_still_tail 11, (by kernel_rfl)
                change wpList _ _ _ _ _ (w2.drewN 1)
                clear hub2
                go_wp2_with fail
                refine HIH.out.mono ?_
                rintro e w4 hcq
                have HN := Lib.hid (conv_next HA2.out.kp.size HA2.out hscb (Nat.succ_pos j) (by rw [HH.out]; exact hcq))
                obtain ⟨⟨v, rfl⟩, -⟩ := hcq
                rw [HH.out] at HN
                obtain ⟨l4, n1, n2, n3, n4, n5, n6, n7⟩ := HN.out
                have HF := Lib.hid (And.intro n1 (And.intro n2 (And.intro n3 (And.intro n4 (And.intro n5 (And.intro n6 n7))))))
                have hmeas : (wval w4 qb Q.length).toNat < (wval wr qb ys.length).toNat := by
                  rw [wval_nat n1.nb, wval_nat HI.out.1.nb]
                  have h1 := HA.out.less
                  have h2 := val_nonneg _ n1.words
                  omega
                have HMS := Lib.hid hmeas
                clear n1 n2 n3 n4 n5 n6 n7 hmeas HN
                go_wp2_with fail
                refine ⟨⟨Q, h, sc', j + 1, .slice (some ⟨ub, 0, none⟩) R.length uc, l4, [ub], rfl, rfl, rfl, by rw [show ((j + 1 : Nat) : Int) - 1 = (j : Int) by omega], by omega, HF.out⟩, HMS.out⟩
        · go_wp2_with fail
          go_meet
          exact ⟨ys, n', sc', rfl, rfl, HI.out.1⟩
    go_wp2_with fail
    go_meet
    have p := HP.out
    exact ⟨xs, n, sc, rfl, rfl, p.nb, p.words, p.nrm, p.len, Nat.le_refl _, p.lt, by rw [Nat.sub_self, ten_zero, Int.ediv_one], fun q h1 h2 => by omega, segB_refl p.row _ _, ⟨l, p.stk, fun y h => .inl h⟩, Kp.refl _ _⟩
  case rest =>
    obtain ⟨ys, n', sc', rfl, rfl, HL⟩ := hcut
    clear hbt hbg HB2 HT
    obtain ⟨Y, hY⟩ : ∃ Y, Y = val ys := ⟨_, rfl⟩
    have HY := Lib.hid hY
    clear hY
    have hn5 : n ≤ 1048576 := by have := HP.out.fit; have := HP.out.big; omega
    have hqg := HP.out.d3
    go_upto_region 19 with fail
    go_loopw [0, 19] (fun q i wr => ∃ (zs : List Int) (v m : Nat), q = .slice (some ⟨qb, 0, none⟩) zs.length qc ∧ i = .int .i64 v ∧ Hid (v ≤ n' ∧ NatB wr qb qc zs ∧ Words zs ∧ nrm zs = zs ∧ zs.length ≤ 64 ∧ val zs = Y / ten m ∧ (v = 0 ∨ n' - v = m) ∧ (∀ p, v ≤ p → p < n' → wr.cell? ⟨g, o + p, none⟩ = some (.int .u8 (dgt Y (n' - 1 - p)))) ∧ SegB wc wr g gc o n' ∧ Kp [qb, g] wc wr)) (fun q _ wr => (wval wr qb (lenOf' q)).toNat)
    case atStart =>
      have h := HL.out
      exact ⟨ys, n', 0, rfl, rfl, Nat.le_refl _, h.nb, h.words, h.nrm, h.len, by rw [ten_zero, Int.ediv_one, HY.out], .inr (by omega), fun p h1 h2 => by omega, segB_refl h.seg.row _ _, Kp.refl _ _⟩
    case round =>
      obtain ⟨zs, v, m, rfl, rfl, HI⟩ := hrel
      obtain ⟨w0, rfl⟩ : ∃ w0, w0 = wr := ⟨wr, rfl⟩
      by_cases h0 : 0 < zs.length
      · obtain ⟨i1, i2, i3, i4, i5, i6, i7, i8, i9, i10⟩ := HI.out
        have hqc := HP.out.qc1
        have HDW := Lib.hid (divW_any qb qc zs 10000000000000000000 15581492618384294730 w0 recIs_a rec_a (by omega) (by omega) (by omega) i3 i2)
        have hvp := val_pos zs i3 i4 h0
        obtain ⟨R, hR⟩ : ∃ R, R = val zs % 10000000000000000000 := ⟨_, rfl⟩
        have hR0 : 0 ≤ R := by rw [hR]; exact Int.emod_nonneg _ (by omega)
        have hR1 : R < 10000000000000000000 := by rw [hR]; exact Int.emod_lt_of_pos _ (by omega)
        rw [← hR] at HDW
        have HDG : Hid (∀ k, k < 19 → 0 < v → dgt R k = dgt Y (n' - v + k)) := fun k hk hv => by
          rw [hR, show (10000000000000000000 : Int) = ten 19 from ten19.symm, dgt_mod _ _ _ hk, i6, dgt_div]
          congr 1
          rcases i7 with h | h <;> omega
        have HRL := Lib.hid hR
        have HW : Hid (wval w0 qb zs.length = val zs) := wval_nat i2
        have hgr : g < w0.heap.size := rowB_lt i9.row
        have HGR := Lib.hid hgr
        have HVP := Lib.hid hvp
        clear i1 i2 i3 i4 i5 i6 i7 i8 i9 i10 hR hgr hvp
        go_upto_region 21 with (go_at_call 196; refine HDW.out.mono ?_; rintro e w2 ⟨Q, rfl, q1, q2, q3, q4, q5, q6⟩; have HQ := Lib.hid (And.intro q1 (And.intro q2 (And.intro q3 (And.intro q4 (And.intro q5 q6))))); clear q1 q2 q3 q4 q5 q6)
        go_upto_region 22 with fail
        go_loopw [19, 20, 21] (fun i r j wx => ∃ k : Nat, i = .int .i64 ((v - k : Nat) : Int) ∧ r = .int .u64 (R / ten k) ∧ j = .int .i64 k ∧ k ≤ 19 ∧ k ≤ v ∧ Hid ((∀ p, v - k ≤ p → p < n' → wx.cell? ⟨g, o + p, none⟩ = some (.int .u8 (dgt Y (n' - 1 - p)))) ∧ SegB wc wx g gc o n' ∧ Kp [g] w2 wx)) (fun _ _ j _ => 19 - (intOf j).toNat)
        case atStart =>
          obtain ⟨i1, i2, i3, i4, i5, i6, i7, i8, i9, i10⟩ := HI.out
          have he : w2.heap[g]? = w0.heap[g]? := HQ.out.2.2.2.2.2.block g HGR.out (by simpa using Ne.symm hqg)
          exact ⟨0, rfl, by simp [ten_zero], rfl, by omega, by omega, fun p h1 h2 => by rw [World.cell?_of_block he]; exact i8 p (by omega) h2, segB_same i9 he, Kp.refl _ _⟩
        case round =>
          obtain ⟨k, rfl, rfl, rfl, hk, hkv, HS⟩ := hrel
          by_cases hgo : k < 19 ∧ k < v
          · obtain ⟨hk19, hkv2⟩ := hgo
            obtain ⟨u, hu⟩ : ∃ u, v - k = u + 1 := ⟨v - k - 1, by omega⟩
            rw [hu] at HS ⊢
            have hvn : v ≤ n' := HI.out.1
            have hrow := HS.out.2.1.row
            have hfit : o + n' ≤ gc := by have := HP.out.fit; have := HL.out.le; omega
            obtain ⟨⟨c0, hc0⟩, hf0⟩ := rowB_cell hrow (o + u) (by omega)
            have hb1 : 0 ≤ R / ten k := Int.ediv_nonneg hR0 (by have := ten_pos k; omega)
            have hb2 : R / ten k ≤ R := Int.ediv_le_self _ hR0
            have et : IntKind.u64.wrap ((R / ten k).tdiv 10) = R / ten (k + 1) := by rw [tdiv_w _ _ hb1 (by unfold BW; omega) (by omega), div_ten]
            obtain ⟨D, hD⟩ : ∃ D, D = dgt Y (n' - v + k) := ⟨_, rfl⟩
            have ed : (48 + IntKind.u64.wrap (R / ten k - IntKind.u64.wrap (R / ten (k + 1) * 10))) % 256 = D := by
              rw [hD, ← HDG.out k hk19 (by omega), ← div_ten, IntKind.wrap_u64, IntKind.wrap_u64]
              unfold dgt
              omega
            have HD := Lib.hid hD; have HU := Lib.hid hu; have HROW := Lib.hid hrow; have HFIT := Lib.hid hfit; have HVN := Lib.hid hvn
            have hun : u < n' := by omega
            have hob : o + u ≤ 1048576 := by have := HP.out.big; omega
            have hun2 : u < n := by have := HL.out.le; omega
            clear hu hD hrow hfit hvn hb1 hb2
            go_wp2_with fail
            refine ⟨⟨k + 1, ?_, rfl, by go_num, by omega, by omega, ?_⟩, ?_⟩
            · have := HU.out
              rw [show v - (k + 1) = u by omega]
            · have h1 := HU.out
              have hd2 : D = dgt Y (n' - 1 - u) := by
                rw [HD.out]
                congr 1
                have := HVN.out
                omega
              refine ⟨fun p h3 h4 => ?_, segB_set HS.out.2.1 ⟨by omega, by omega⟩ _, HS.out.2.2.setCell (by simp) _⟩
              exact dig_set (n := n') (fun p h5 h6 => HS.out.1 p h5 h6) HROW.out hun HFIT.out D hd2 p (by omega) h4
            · simp [intOf] <;> omega
          · have hgo2 : k = 19 ∨ v - k = 0 := by omega
            have HFINI : Hid (v - k ≤ n' ∧ NatB wr qb qc Q ∧ Words Q ∧ IsNrm Q ∧ Q.length ≤ 64 ∧ val Q = Y / ten (m + 19) ∧ (v - k = 0 ∨ n' - (v - k) = m + 19) ∧ (∀ p, v - k ≤ p → p < n' → wr.cell? ⟨g, o + p, none⟩ = some (.int .u8 (dgt Y (n' - 1 - p)))) ∧ SegB wc wr g gc o n' ∧ Kp [qb, g] wc wr) := by
              obtain ⟨i1, i2, i3, i4, i5, i6, i7, i8, i9, i10⟩ := HI.out
              obtain ⟨q1, q2, q3, q4, q5, q6⟩ := HQ.out
              obtain ⟨s1, s2, s3⟩ := HS.out
              refine ⟨by omega, natB_kp q1 s3 (by simpa using hqg), q3, q4, by omega, ?_, by omega, s1, s2, (i10.trans ⟨q6.os, q6.tape, q6.output, q6.size, fun y h1 h2 => q6.block y h1 (by simp at h2 ⊢; exact h2.1)⟩).trans ⟨s3.os, s3.tape, s3.output, s3.size, fun y h1 h2 => s3.block y h1 (by simp at h2 ⊢; exact h2.2)⟩⟩
              rw [q5, i6, show (10000000000000000000 : Int) = ten 19 from ten19.symm, ten_add, Int.ediv_ediv_of_nonneg (by have := ten_pos m; omega)]
            have HMS : Hid ((wval wr qb Q.length).toNat < (wval w0 qb zs.length).toNat) := by
              have h1 := wval_nat HFINI.out.2.1
              have h2 := HW.out
              have h3 := HQ.out.2.2.2.2.1
              have h4 := HVP.out
              have h5 : val zs / 10000000000000000000 < val zs := Int.ediv_lt_of_lt_mul (by omega) (by omega)
              have h6 : 0 ≤ val zs / 10000000000000000000 := Int.ediv_nonneg (by omega) (by omega)
              show _ < _
              rw [h1, h2, h3]
              omega
            rcases hgo2 with rfl | h0'
            · go_wp2_with fail
              obtain ⟨f1, f2, f3, f4, f5, f6, f7, f8, f9, f10⟩ := HFINI.out
              exact ⟨⟨Q, v - 19, m + 19, rfl, rfl, f1, f2, f3, f4, f5, f6, f7, f8, f9, f10⟩, HMS.out⟩
            · have hkn : (k : Int) ≤ 19 := by omega
              rw [h0'] at HFINI ⊢
              go_wp2_with fail
              all_goals
                obtain ⟨f1, f2, f3, f4, f5, f6, f7, f8, f9, f10⟩ := HFINI.out
                exact ⟨⟨Q, 0, m + 19, rfl, rfl, f1, f2, f3, f4, f5, f6, f7, f8, f9, f10⟩, HMS.out⟩
      · obtain ⟨i1, i2, i3, i4, i5, i6, i7, i8, i9, i10⟩ := HI.out
        have hzl : zs.length = 0 := by omega
        have hz : zs = [] := List.eq_nil_of_length_eq_zero hzl
        have hYm : Y < ten m ∧ 0 ≤ Y := by
          have hY0 : 0 ≤ Y := by rw [HY.out]; exact val_nonneg _ HL.out.words
          refine ⟨?_, hY0⟩
          rw [hz] at i6
          simp only [val] at i6
          have := Int.lt_ediv_add_one_mul_self Y (show 0 < ten m by have := ten_pos m; omega)
          rw [← i6] at this
          omega
        have HYM := Lib.hid hYm
        have H0 : Hid (v ≤ n' ∧ (v = 0 ∨ Y < ten (n' - v)) ∧ (∀ p, v ≤ p → p < n' → w0.cell? ⟨g, o + p, none⟩ = some (.int .u8 (dgt Y (n' - 1 - p)))) ∧ SegB wc w0 g gc o n' ∧ Kp [qb, g] wc w0 ∧ RowC w0 qb qc) := ⟨i1, by
          rcases i7 with h | h
          · exact .inl h
          · exact .inr (by rw [h]; exact hYm.1), i8, i9, i10, i2.blk⟩
        subst hz
        clear i1 i2 i3 i4 i5 i6 i7 i8 i9 i10 hzl hYm h0
        go_upto_region 36 with fail
        go_loopw [19] (fun i wx => ∃ u : Nat, i = .int .i64 u ∧ Hid (u ≤ n' ∧ (u = 0 ∨ Y < ten (n' - u)) ∧ (∀ p, u ≤ p → p < n' → wx.cell? ⟨g, o + p, none⟩ = some (.int .u8 (dgt Y (n' - 1 - p)))) ∧ SegB wc wx g gc o n' ∧ Kp [qb, g] wc wx ∧ RowC wx qb qc)) (fun i _ => (intOf i).toNat)
        case atStart => exact ⟨v, rfl, H0.out⟩
        case round =>
          obtain ⟨u, rfl, HU⟩ := hrel
          by_cases hu0 : 0 < u
          · obtain ⟨u, rfl⟩ : ∃ i, u = i + 1 := ⟨u - 1, by omega⟩
            have hun : u < n' := by have := HU.out.1; omega
            have hfit : o + n' ≤ gc := by have := HP.out.fit; have := HL.out.le; omega
            have hrow := HU.out.2.2.2.1.row
            obtain ⟨⟨c0, hc0⟩, hf0⟩ := rowB_cell hrow (o + u) (by omega)
            have hob : o + u ≤ 1048576 := by have := HP.out.big; omega
            have hun2 : u < n := by have := HL.out.le; omega
            have HROW := Lib.hid hrow; have HFIT := Lib.hid hfit
            clear hrow hfit
            go_wp2_with fail
            obtain ⟨u1, u2, u3, u4, u5, u6⟩ := HU.out
            have hlt : Y < ten (n' - (u + 1)) := by
              rcases u2 with h | h
              · omega
              · exact h
            have hd : (48 : Int) = dgt Y (n' - 1 - u) := (dgt_zero Y _ (n' - (u + 1)) HYM.out.2 (by omega) hlt).symm
            refine ⟨⟨u, rfl, by omega, .inr ?_, fun p h3 h4 => ?_, segB_set u4 ⟨by omega, by omega⟩ _, u5.setCell (by simp) _, rowC_of u6 (Below.heap_setCell _ _ _ _ (by simpa using hqg))⟩, by simp [intOf] <;> omega⟩
            · have := ten_mono (show n' - (u + 1) ≤ n' - u by omega)
              omega
            · exact dig_set (n := n') (fun p h5 h6 => u3 p h5 h6) HROW.out hun HFIT.out 48 hd p (by omega) h4
          · obtain rfl : u = 0 := by omega
            go_wp2_with fail
            go_end0
            obtain ⟨u1, u2, u3, u4, u5, u6⟩ := HU.out
            have h := HL.out
            have hp := HP.out
            obtain ⟨l', a1, a2⟩ := h.stk
            have hk2 : Kp (qb :: g :: sb :: l) wc wr := ⟨u5.os, u5.tape, u5.output, u5.size, fun y h1 h2 => u5.block y h1 (by simp only [List.mem_cons, List.mem_nil_iff, or_false, not_or] at h2 ⊢; exact ⟨h2.1, h2.2.1⟩)⟩
            refine ⟨⟨_, rfl⟩, l', fun p h1 h2 => ?_, ⟨u4.row, fun p h1 => ?_⟩, u6, stk_kp a1 u5 (fun y hy hy2 => ?_), a2, h.kp.trans hk2⟩
            · by_cases hpn : p < n'
              · rw [u3 p (by omega) hpn, HY.out, h.eq, dgt_div]
                congr 3
                have := h.le
                omega
              · rw [u4.out (o + p) (by omega)]
                exact h.dig p (by omega) h2
            · rw [u4.out p (by have := h.le; omega)]
              exact h.seg.out p h1
            · simp only [List.mem_cons, List.mem_nil_iff, or_false] at hy hy2
              have d1 := hp.d1
              have d2 := hp.d2
              simp only [List.mem_cons, not_or] at d1 d2
              have b1 := natB_lt hp.nb
              have b2 := rowB_lt hp.row
              rcases hy2 with rfl | rfl
              · rcases hy with hy | hy
                · exact d1.1 hy
                · rcases a2 y hy with h3 | h3
                  · exact d1.2 h3
                  · omega
              · rcases hy with hy | hy
                · exact d2.1 hy
                · rcases a2 y hy with h3 | h3
                  · exact d2.2 h3
                  · omega
/-- The digits' walk, whatever the table's length. -/
theorem conv_all (t : Nat) : ConvC t := by
  induction t using Nat.strongRecOn with
  | _ t ih => exact fun sb qb qc g gc o n sc tb tc bb l xs w h1 h2 h3 h4 h5 h6 h7 => conv_gen sb qb qc g gc o n sc _ l xs w h1 h2 (.inr ⟨tb, t, tc, bb, rfl, h3, h4, h5, h6, h7, ih⟩)
end Go.Proofs.YtoofphhfealcaaaGreatDoor
