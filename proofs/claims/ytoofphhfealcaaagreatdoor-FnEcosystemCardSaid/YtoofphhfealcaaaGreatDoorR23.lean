/-
  WALK: the product of two numbers, digit by digit (basicMul).
  WALK: the square of a number of two to eleven words (sqr).
  WALK: the square of a number of one word (sqr).
  WALK: a number of one word (setWord).
  PLAIN: the square of a number out of its words' squares and the doubled products.
  WALK: the square of a number of sixteen words (basicSqr).
-/
import Derived.Test.YtoofphhfealcaaaGreatDoorR14
namespace Go.Proofs.YtoofphhfealcaaaGreatDoor
open Go.RowKit
/-- One word of the multiplier: its product is added from the place i on. -/
theorem bm_step {xs ys Z : List Int} {n i : Nat} (hxn : xs.length = n) (hZl : Z.length = n + i) (hZ : Words Z) (hx : Words xs) (hy : Words ys) (hi : i < ys.length) (hv : val Z = val xs * val (ys.take i)) :
    (Z.take i ++ (amL (Z.drop i) xs ys[i] 0 ++ [amC (Z.drop i) xs ys[i] 0])).length = n + (i + 1) ∧ Words (Z.take i ++ (amL (Z.drop i) xs ys[i] 0 ++ [amC (Z.drop i) xs ys[i] 0])) ∧
      val (Z.take i ++ (amL (Z.drop i) xs ys[i] 0 ++ [amC (Z.drop i) xs ys[i] 0])) = val xs * val (ys.take (i + 1)) := by
  have hdl : (Z.drop i).length = xs.length := by rw [List.length_drop]; omega
  have hal := amL_len (Z.drop i) xs ys[i] 0 hdl
  have hyi := words_get hy i hi
  have hc := amC_rng (Z.drop i) xs ys[i] 0 (words_drop hZ i) hx hyi.1 hyi.2 (by omega) bw_pos
  have htl : (Z.take i).length = i := by rw [List.length_take]; omega
  refine ⟨by simp only [List.length_append, List.length_cons, List.length_nil]; omega, words_append (words_take hZ i) (words_append (words_am _ _ _ _) (words_cons hc (fun z hz => by simp at hz))), ?_⟩
  have h1 := val_am (Z.drop i) xs ys[i] 0 hdl
  have h2 := val_append (Z.take i) (Z.drop i)
  rw [List.take_append_drop, htl] at h2
  have h3 : val (ys.take (i + 1)) = val (ys.take i) + BW ^ i * ys[i] := by
    rw [List.take_succ_eq_append_getElem hi, val_snoc, List.length_take, Nat.min_eq_left (by omega)]
  rw [val_append, htl, val_snoc, hal, h3, h1]
  rw [h2] at hv
  generalize (BW : Int) ^ i = P at *
  grind
/-- A word of the multiplier that is zero adds nothing. -/
theorem bm_zero {xs ys Z : List Int} {n i : Nat} (hZl : Z.length = n + i) (hZ : Words Z) (hi : i < ys.length) (hy0 : ys[i] = 0) (hv : val Z = val xs * val (ys.take i)) :
    (Z ++ [0]).length = n + (i + 1) ∧ Words (Z ++ [0]) ∧ val (Z ++ [0]) = val xs * val (ys.take (i + 1)) := by
  have h3 : val (ys.take (i + 1)) = val (ys.take i) := by
    rw [List.take_succ_eq_append_getElem hi, val_snoc, hy0]
    omega
  refine ⟨by simp only [List.length_append, List.length_cons, List.length_nil]; omega, words_append hZ (words_cons ⟨by omega, bw_pos⟩ (fun z hz => by simp at hz)), ?_⟩
  rw [val_snoc, h3, hv]
  omega
theorem reads_kp' {w w' : World} {L : List Nat} {b o : Nat} {xs : List Int} (h : Reads w b o xs) (hk : Kp L w w') (hb : b ∉ L) : Reads w' b o xs := fun j hj => hk.cell (h j hj) hb
theorem set_mid (A S T : List Int) (c : Int) : (A ++ (S ++ (0 :: T))).set (A.length + S.length) c = A ++ (S ++ [c]) ++ T := by
  rw [List.set_append_right _ _ (by omega), List.set_append_right _ _ (by omega)]
  simp
set_option maxRecDepth 100000 in
set_option maxHeartbeats 4000000 in
theorem basicMul_any (zb zc xb xc yb yc n m nm : Nat) (xs ys : List Int) (w : World) (hxn : xs.length = n) (hym : ys.length = m) (hnm : n + m = nm) (hX : Words xs) (hY : Words ys) (h0 : 0 < n) (hn5 : n ≤ 100000) (hm5 : m ≤ 100000)
    (hRow : RowC w zb zc) (hfit : nm ≤ zc) (hRx : Reads w xb 0 xs) (hRy : Reads w yb 0 ys) (hxz : xb ≠ zb) (hyz : yb ≠ zb) :
    Calls Tryz.prog 209 #[.slice (some ⟨zb, 0, none⟩) nm zc, .slice (some ⟨xb, 0, none⟩) n xc, .slice (some ⟨yb, 0, none⟩) m yc] w fun e w' => (∃ v, e = .returned v) ∧
      ∃ Z, Z.length = nm ∧ NatB w' zb zc Z ∧ Words Z ∧ val Z = val xs * val ys ∧ Kp [zb] w w' := by
  have hroom : Room w zb 0 nm := rowC_room hRow (by omega)
  have hcl : ∀ ty, (Builtin.clear_ #[110] ty #[.slice (some ⟨zb, 0, none⟩) nm zc]).run Tryz.prog w = .ok (.tuple #[]) (w.setCells zb 0 (List.replicate nm (.int .u64 0))) := fun ty =>
    Lib.run_clear_slice w 110 156 ty (.int .u64 0) (by kernel_rfl) (fun W => by kernel_rfl) rfl rfl zb 0 nm zc (by omega) (fun j hj => by obtain ⟨u, hu⟩ := (hroom j hj).1; rw [hu]; rfl) (fun j hj => (hroom j hj).2)
  have e1 : IntKind.i64.wrap ((n : Int) + (m : Int)) = (nm : Int) := by rw [IntKind.wrap_i64]; omega
  have HX := Lib.hid hX; have HY := Lib.hid hY; have HRX := Lib.hid hRx; have HRY := Lib.hid hRy; have HXN := Lib.hid hxn; have HYM := Lib.hid hym; have HNM := Lib.hid hnm; have HROW := Lib.hid hRow; have HROOM := Lib.hid hroom
  have hnm1 : n ≤ nm := by omega
  have hnm2 : m ≤ nm := by omega
  clear hX hY hRx hRy hxn hym hnm hRow hroom
  go_enter Tryz.func209, Tryz.ntmps209
  go_upto_region 1 with fail
  have hs1 : Seg w (w.setCells zb 0 (List.replicate nm (.int .u64 0))) zb 0 (List.replicate nm 0) := by
    have := seg_of_setCells w zb 0 (List.replicate nm 0) (by simpa using HROOM.out)
    simpa [wv] using this
  generalize w.setCells zb 0 (List.replicate nm (.int .u64 0)) = w1 at hs1 ⊢
  have HS1 := Lib.hid hs1
  clear hs1 hcl
  go_upto_region 2 with fail
  go_loopw [17] (fun iv wr => ∃ i : Nat, iv = .int .i64 i ∧ i ≤ m ∧ Hid (∃ Z : List Int, Z.length = n + i ∧ Words Z ∧ NatB wr zb zc (Z ++ List.replicate (m - i) 0) ∧ val Z = val xs * val (ys.take i) ∧ Kp [zb] w wr)) (fun iv _ => m - (intOf iv).toNat)
  case atStart =>
    refine ⟨0, rfl, by omega, List.replicate n 0, by simp, words_zeros n, ?_, by simp [val_zeros, val], HS1.out.kp⟩
    have h1 := rowC_seg HROW.out HS1.out
    have h2 := HS1.out.rds
    rw [← HNM.out] at h2
    rw [List.replicate_append_replicate]
    exact natB_row h1 h2 (by simp; have := HNM.out; omega)
  case round =>
    obtain ⟨i, rfl, him, HI⟩ := hrel
    by_cases hi : i < m
    · have hcy : wr.cell? ⟨yb, i, none⟩ = some (.int .u64 (ys[i]'(by rw [HYM.out]; exact hi))) := by
        obtain ⟨Z, z1, z2, z3, z4, z5⟩ := HI.out
        have := z5.cell (HRY.out i (by rw [HYM.out]; exact hi)) (by simpa using hyz)
        simpa using this
      obtain ⟨y, hy⟩ : ∃ y, y = ys[i]'(by rw [HYM.out]; exact hi) := ⟨_, rfl⟩
      rw [← hy] at hcy
      have HYI := Lib.hid hy
      clear hy
      by_cases hy0 : y = 0
      · subst hy0
        go_wp2_with fail
        refine ⟨⟨i + 1, rfl, by omega, ?_⟩, by simp [intOf] <;> omega⟩
        obtain ⟨Z, z1, z2, z3, z4, z5⟩ := HI.out
        obtain ⟨b1, b2, b3⟩ := bm_zero (n := n) z1 z2 (by rw [HYM.out]; exact hi) HYI.out.symm z4
        refine ⟨Z ++ [0], b1, b2, ?_, b3, z5⟩
        rw [List.append_assoc, List.singleton_append, ← List.replicate_succ, show m - (i + 1) + 1 = m - i by omega]
        exact z3
      · go_upto_region 5 with fail
        have hnm := HNM.out
        obtain ⟨kn, i1, i1b, i2, i3, i4, i7, hkn⟩ : ∃ kn : Nat, IntKind.i64.wrap ((i : Int) + (n : Int)) = (kn : Int) ∧ IntKind.i64.wrap ((n : Int) + (i : Int)) = (kn : Int) ∧ kn ≤ zc ∧ i ≤ kn ∧ kn - i = n ∧ kn < nm ∧ kn = i + n := ⟨i + n, by rw [IntKind.wrap_i64]; omega, by rw [IntKind.wrap_i64]; omega, by omega, by omega, by omega, by omega, rfl⟩
        have i5 : ¬ zc = i := by omega
        have HKN := Lib.hid hkn
        clear hnm hkn
        obtain ⟨Z, hZf⟩ := HI.out
        have HZF := Lib.hid hZf
        clear hZf
        have hnat : NatB (wr.drewN 1) zb zc (Z.take i ++ (Z.drop i ++ List.replicate (m - i) 0)) := by
          rw [← List.append_assoc, List.take_append_drop]
          exact natB_drewN HZF.out.2.2.1 1
        have htl : (Z.take i).length = i := by rw [List.length_take]; have := HZF.out.1; omega
        have hdl : (Z.drop i).length = n := by rw [List.length_drop]; have := HZF.out.1; omega
        have hyr := words_get HY.out i (by rw [HYM.out]; exact hi)
        rw [← HYI.out] at hyr
        have HC := Lib.hid (addMulVVWW_seg zb i (zc - i) zb i (zc - i) xb 0 xc n (Z.drop i) xs y (wr.drewN 1) hyr.1 hyr.2 hdl HXN.out (words_drop HZF.out.2.1 i) HX.out (by omega)
          (by have := natB_sub hnat; rw [htl] at this; exact this) (reads_kp' HRX.out (HZF.out.2.2.2.2.drewN 1) (by simpa using hxz)) (rowC_room hnat.blk (by omega)) (.inr (.inl (Nat.le_refl _))) (.inl hxz))
        have HNAT := Lib.hid hnat; have HTL := Lib.hid htl; have HDL := Lib.hid hdl
        obtain ⟨cy, hcy2⟩ : ∃ cy, cy = amC (Z.drop i) xs y 0 := ⟨_, rfl⟩
        rw [← hcy2] at HC
        have HCY := Lib.hid hcy2
        clear hnat htl hdl hyr hcy2
        go_region_with (first | (go_at_call 228; refine HC.out.mono ?_; rintro e w2 ⟨rfl, hs2⟩; have hal : (amL (Z.drop i) xs y 0).length = (Z.drop i).length := amL_len _ _ _ _ (by rw [HDL.out, HXN.out]); have h2 := natB_seg HNAT.out hs2 HTL.out.symm hal; obtain ⟨⟨u, hu⟩, hf⟩ := rowC_room (o := 0) (n := nm) h2.blk (by omega) kn i7; rw [Nat.zero_add] at hu hf; have HN2 := Lib.hid h2; have HAL := Lib.hid hal; have HS2 := Lib.hid hs2; clear h2 hal hs2))
        all_goals
          go_wp2_with fail
          refine ⟨⟨i + 1, rfl, by omega, ?_⟩, by simp [intOf] <;> omega⟩
          obtain ⟨z1, z2, z3, z4, z5⟩ := HZF.out
          have hiy : i < ys.length := by rw [HYM.out]; exact hi
          obtain ⟨b1, b2, b3⟩ := bm_step (n := n) HXN.out z1 z2 HX.out HY.out hiy z4
          rw [← HYI.out, ← HCY.out] at b1 b2 b3
          refine ⟨_, b1, b2, ?_, b3, (z5.trans ((Kp.refl _ _).drewN 1 |>.trans HS2.out.kp)).setCell (by simp) _⟩
          have hz : List.replicate (m - i) (0 : Int) = 0 :: List.replicate (m - (i + 1)) 0 := by rw [← List.replicate_succ]; congr 1; omega
          have h3 := HN2.out
          rw [hz] at h3
          have h4 := natB_set h3 (k := kn) (by simp only [List.length_append, List.length_cons, HAL.out, HDL.out, HTL.out]; have := HKN.out; omega) cy
          rw [show kn = (Z.take i).length + (amL (Z.drop i) xs y 0).length by rw [HAL.out, HDL.out, HTL.out]; exact HKN.out, set_mid] at h4
          rw [show kn = (Z.take i).length + (amL (Z.drop i) xs y 0).length by rw [HAL.out, HDL.out, HTL.out]; exact HKN.out]
          exact h4
    · obtain rfl : i = m := by omega
      go_wp2_with fail
      go_end0
      obtain ⟨Z, z1, z2, z3, z4, z5⟩ := HI.out
      refine ⟨⟨_, rfl⟩, Z, by have := HNM.out; omega, ?_, z2, ?_, z5⟩
      · simpa using z3
      · rw [z4, ← HYM.out, List.take_length]
end Go.Proofs.YtoofphhfealcaaaGreatDoor

namespace Go.Proofs.YtoofphhfealcaaaGreatDoor
open Go.RowKit
set_option maxRecDepth 100000 in
set_option maxHeartbeats 4000000 in
theorem alias_z (z : Value) (rl : List Nat) (b bc m : Nat) (w : World) (hz : ZOK w z rl) (hb : b ∉ rl) (h2 : 0 < bc) (hb2 : bc ≤ 1048576) (rb : RowC w b bc) :
    Calls Tryz.prog 174 #[z, .slice (some ⟨b, 0, none⟩) m bc] w fun e w' => e = .returned (.bool false) ∧ ∃ q, w' = w.drewN q := by
  rcases hz with ⟨rfl, rfl⟩ | ⟨rb', len, rc, rfl, rfl, hr, hc⟩
  · have RB := Lib.hid rb
    clear rb
    go_enter Tryz.func174, Tryz.ntmps174
    go_upto_region 1 with fail
    go_quiet (fail)
    go_wp2_with fail
    go_ret
    exact ⟨rfl, _, rfl⟩
  · by_cases h0 : 0 < rc
    · exact alias_ne rb' rc b bc len m w h0 h2 hc hb2 (by simpa using Ne.symm (fun h => hb (by simp [h]))) hr rb
    · obtain rfl : rc = 0 := by omega
      have RB := Lib.hid rb; have HR := Lib.hid hr
      clear rb hr
      go_enter Tryz.func174, Tryz.ntmps174
      go_upto_region 1 with fail
      go_quiet (fail)
      go_wp2_with fail
      go_ret
      exact ⟨rfl, _, rfl⟩
/-- What a square leaves: a number in a row. -/
def SqPost (w : World) (rl : List Nat) (x : Int) (e : Ending) (w' : World) : Prop :=
  ∃ (ub uc : Nat) (Z : List Int), e = .returned (.slice (some ⟨ub, 0, none⟩) Z.length uc) ∧ NatB w' ub uc Z ∧ Words Z ∧ nrm Z = Z ∧ val Z = x ∧ uc ≤ 1048576 ∧ (ub ∈ rl ∨ w.heap.size ≤ ub) ∧ Kp rl w w'
set_option maxRecDepth 100000 in
set_option maxHeartbeats 4000000 in
theorem sqr_mid (z sv : Value) (rl : List Nat) (xb xc n : Nat) (xs : List Int) (w : World) (hxn : xs.length = n) (h2 : 2 ≤ n) (h12 : n < 12) (hX : Words xs) (hB : NatB w xb xc xs) (hxc : xc ≤ 1048576) (hz : ZOK w z rl) (hxr : xb ∉ rl)
    (h15 : w.cell? ⟨15, 0, none⟩ = some (.int .i64 12)) (h16 : w.cell? ⟨16, 0, none⟩ = some (.int .i64 80)) :
    Calls Tryz.prog 193 #[z, sv, .slice (some ⟨xb, 0, none⟩) n xc] w (SqPost w rl (val xs * val xs)) := by
  have hfit := hB.fit
  have HAL := Lib.hid (alias_z z rl xb xc n w hz hxr (by omega) hxc hB.blk)
  obtain ⟨n2, e1, e2⟩ : ∃ n2 : Nat, IntKind.i64.wrap (2 * (n : Int)) = (n2 : Int) ∧ n + n = n2 := ⟨n + n, by rw [IntKind.wrap_i64]; omega, rfl⟩
  have HE2 := Lib.hid e2
  have HMK : Hid (∀ q, Calls Tryz.prog 171 #[z, .int .i64 n2] (w.drewN q) fun e w' => ∃ ub uc, e = .returned (.slice (some ⟨ub, 0, none⟩) n2 uc) ∧ MkPost (w.drewN q) w' rl n2 ub uc) := fun q => make_u z rl n2 (w.drewN q) (zok_kp hz ((Kp.refl [] w).drewN q) (by simp)) (by omega) (by omega)
  have HX := Lib.hid hX; have HB := Lib.hid hB; have HZ := Lib.hid hz; have H15 := Lib.hid h15; have H16 := Lib.hid h16; have HXN := Lib.hid hxn
  clear e2 hX hB hz h15 h16 hxn
  go_enter Tryz.func193, Tryz.ntmps193
  go_upto_region 11 with (go_at_call 174; refine HAL.out.mono ?_; rintro e w2 ⟨rfl, q, rfl⟩)
  go_upto_region 12 with (go_at_call 171; refine (HMK.out q).mono ?_; rintro e w2 ⟨ub, uc, rfl, hmk⟩; have HM := Lib.hid hmk; clear hmk)
  have hkp : Kp [] (w.drewN q) w2 := kp_below HM.out.below
  have h15 : w2.cell? ⟨15, 0, none⟩ = some (.int .i64 12) := hkp.cell H15.out (by simp)
  have h16 : w2.cell? ⟨16, 0, none⟩ = some (.int .i64 80) := hkp.cell H16.out (by simp)
  have hub : ub ∈ rl ∨ ub = w.heap.size := HM.out.new
  have hxu : xb ≠ ub := fun h => by
    have := natB_lt HB.out
    rcases hub with h1 | h1
    · exact hxr (h ▸ h1)
    · omega
  have HBM := Lib.hid (basicMul_any ub uc xb xc xb xc n n n2 xs xs w2 HXN.out HXN.out HE2.out HX.out HX.out (by omega) (by omega) (by omega) HM.out.row HM.out.fit (natB_kp HB.out (((Kp.refl [] w).drewN q).trans hkp) (by simp)).rds (natB_kp HB.out (((Kp.refl [] w).drewN q).trans hkp) (by simp)).rds hxu hxu)
  have HK := Lib.hid (((Kp.refl [] w).drewN q).trans hkp)
  have HUB := Lib.hid hub
  clear hkp hub hxu
  go_upto_region 14 with (go_at_call 209; refine HBM.out.mono ?_; rintro e w3 ⟨⟨v, rfl⟩, Z, hzl, z2, z3, z4, z5⟩; have HZ2 := Lib.hid (And.intro hzl (And.intro z2 (And.intro z3 (And.intro z4 z5)))); have HNR := Lib.hid (norm_any ub 0 uc Z w3 (by have := HM.out.big; have := z2.fit; omega) z2.fit z2.rds); rw [hzl] at HNR; clear hzl z2 z3 z4 z5)
  go_wp2_with (go_at_call 154; refine HNR.out.mono ?_; rintro e w4 ⟨rfl, rfl⟩)
  go_ret
  obtain ⟨a1, a2, a3, a4, a5⟩ := HZ2.out
  refine ⟨ub, uc, nrm Z, rfl, natB_nrm a2, words_nrm a3, nrm_nrm Z, by rw [val_nrm, a4], HM.out.big, ?_, ?_⟩
  · rcases HUB.out with h | h
    · exact .inl h
    · exact .inr (by omega)
  · refine kp_step (kp_mono HK.out (by simp)) a5 (fun x hx => ?_)
    simp only [List.mem_cons, List.mem_nil_iff, or_false] at hx
    subst hx
    rcases HUB.out with h | h
    · exact .inl h
    · exact .inr (by omega)
end Go.Proofs.YtoofphhfealcaaaGreatDoor

namespace Go.Proofs.YtoofphhfealcaaaGreatDoor
open Go.RowKit
set_option maxRecDepth 100000 in
set_option maxHeartbeats 4000000 in
theorem sqr_one (z sv : Value) (rl : List Nat) (xb xc : Nat) (x : Int) (w : World) (hx0 : 0 ≤ x) (hx : x < BW) (hB : NatB w xb xc [x]) (hz : ZOK w z rl) :
    Calls Tryz.prog 193 #[z, sv, .slice (some ⟨xb, 0, none⟩) 1 xc] w (SqPost w rl (x * x)) := by
  have hc0 : w.cell? ⟨xb, 0, none⟩ = some (.int .u64 x) := natB_cell hB (k := 0) (by simp)
  have HMK := Lib.hid (make_u z rl 2 w hz (by omega) (by omega))
  have HB := Lib.hid hB; have HZ := Lib.hid hz; have HC0 := Lib.hid hc0
  have HW := Lib.hid (fun W => mulWW_any x x W hx0 hx hx0 hx)
  clear hB hz
  go_enter Tryz.func193, Tryz.ntmps193
  go_upto_region 7 with (go_at_call 171; refine HMK.out.mono ?_; rintro e w2 ⟨ub, uc, rfl, hmk⟩; have HM := Lib.hid hmk; clear hmk)
  obtain ⟨⟨u0, hu0⟩, hf0⟩ := rowC_room (o := 0) (n := 2) HM.out.row (by have := HM.out.fit; omega) 0 (by omega)
  obtain ⟨⟨u1, hu1⟩, hf1⟩ := rowC_room (o := 0) (n := 2) HM.out.row (by have := HM.out.fit; omega) 1 (by omega)
  rw [Nat.zero_add] at hu0 hf0 hu1 hf1
  go_upto_region 8 with (go_at_call 208; refine (HW.out _).mono ?_; rintro e w3 ⟨rfl, rfl⟩)
  obtain ⟨hi, hhi⟩ : ∃ hi, hi = mHi x x 0 := ⟨_, rfl⟩
  obtain ⟨lo, hlo⟩ : ∃ lo, lo = mLo x x 0 := ⟨_, rfl⟩
  rw [← hhi, ← hlo]
  have hn : NatB ((w2.setCell ⟨ub, 1, none⟩ (.int .u64 hi)).setCell ⟨ub, 0, none⟩ (.int .u64 lo)) ub uc [lo, hi] := by
    obtain ⟨cur, a, b⟩ := HM.out.row
    refine natB_row ⟨_, heap_setCell_at _ ub 0 _ _ 156 (0, 0) (heap_setCell_at w2 ub 1 _ cur 156 (0, 0) a), by simpa using b⟩ (fun j hj => ?_) (by have := HM.out.fit; simpa using this)
    have hj2 : j = 0 ∨ j = 1 := by simp at hj; omega
    rcases hj2 with rfl | rfl
    · exact World.cell?_setCell_same _ _ _ (by rw [World.cell?_setCell_other _ _ _ _ (by simp)]; exact hu0)
    · rw [World.cell?_setCell_other _ _ _ _ (by simp)]
      exact World.cell?_setCell_same _ _ _ hu1
  have hkp : Kp rl w ((w2.setCell ⟨ub, 1, none⟩ (.int .u64 hi)).setCell ⟨ub, 0, none⟩ (.int .u64 lo)) := by
    have h1 : Kp [ub] w ((w2.setCell ⟨ub, 1, none⟩ (.int .u64 hi)).setCell ⟨ub, 0, none⟩ (.int .u64 lo)) := ((kp_mono (kp_below HM.out.below) (by simp)).setCell (by simp) _).setCell (by simp) _
    refine kp_mono h1 (fun y hy => ?_)
    simp only [List.mem_cons, List.mem_nil_iff, or_false] at hy
    subst hy
    rcases HM.out.new with h | h
    · exact .inl h
    · exact .inr (by omega)
  generalize (w2.setCell ⟨ub, 1, none⟩ (.int .u64 hi)).setCell ⟨ub, 0, none⟩ (.int .u64 lo) = w4 at hn hkp ⊢
  have HN := Lib.hid hn; have HKP := Lib.hid hkp; have HHI := Lib.hid hhi; have HLO := Lib.hid hlo
  have HNR := Lib.hid (norm_any ub 0 uc [lo, hi] w4 (by simp) hn.fit hn.rds)
  have hl : ([lo, hi] : List Int).length = 2 := rfl
  rw [hl] at HNR
  clear hn hkp hhi hlo hl
  go_wp2_with (go_at_call 154; refine HNR.out.mono ?_; rintro e w5 ⟨rfl, rfl⟩)
  go_ret
  have hw : Words [lo, hi] := by
    rw [HHI.out, HLO.out]
    exact words_cons (mLo_rng x x 0) (words_cons (mHi_rng2 x x 0 hx0 hx hx0 hx (by omega) (by have := bw_pos; omega)) (fun z hz => by simp at hz))
  refine ⟨ub, uc, nrm [lo, hi], rfl, natB_nrm HN.out, words_nrm hw, nrm_nrm _, ?_, HM.out.big, ?_, HKP.out⟩
  · rw [val_nrm, HHI.out, HLO.out]
    simp only [val, mLo, mHi, Int.mul_zero, Int.add_zero]
    unfold BW
    generalize x * x = p
    omega
  · rcases HM.out.new with h | h
    · exact .inl h
    · exact .inr (by omega)
end Go.Proofs.YtoofphhfealcaaaGreatDoor

namespace Go.Proofs.YtoofphhfealcaaaGreatDoor
open Go.RowKit
set_option maxRecDepth 100000 in
set_option maxHeartbeats 4000000 in
theorem setWord_new (x : Int) (w : World) (hx : 0 < x) :
    Calls Tryz.prog 170 #[.slice none 0 0, .int .u64 x] w fun e w' => e = .returned (.slice (some ⟨w.heap.size, 0, none⟩) 1 1) ∧ NatB w' w.heap.size 1 [x] ∧ Below w.heap.size w w' := by
  have HMK := Lib.hid (make_one none 0 w)
  have hne : (x == 0) = false := by simp; omega
  go_enter Tryz.func170, Tryz.ntmps170
  go_upto_region 4 with (go_at_call 171; refine HMK.out.mono ?_; rintro e w2 ⟨rfl, hw2⟩; have HW2 := Lib.hid hw2; clear hw2)
  have hh : w2.heap[w.heap.size]? = some (.cells (madeCells #[.int .u64 0] 1) 156 (0, 0)) := by rw [← HW2.out]; exact heap_alloc_new w _
  have hrow : RowC w2 w.heap.size 1 := ⟨_, hh, size_madeCells _ _⟩
  obtain ⟨⟨u0, hu0⟩, hf0⟩ := rowC_room (o := 0) (n := 1) hrow (by omega) 0 (by omega)
  rw [Nat.zero_add] at hu0 hf0
  have HROW := Lib.hid hrow; have HH := Lib.hid hh
  clear hrow hh
  go_wp2_with fail
  go_ret
  refine ⟨rfl, natB_row ?_ (fun j hj => ?_) (by simp), ?_⟩
  · exact ⟨_, heap_setCell_at w2 _ 0 _ _ 156 (0, 0) HH.out, by simp [size_madeCells]⟩
  · obtain rfl : j = 0 := by simp at hj; omega
    exact World.cell?_setCell_same _ _ _ hu0
  · refine Below.setCell ?_ (by simp) _
    rw [← HW2.out]
    exact (Below.refl _ _).alloc (Nat.le_refl _) _
end Go.Proofs.YtoofphhfealcaaaGreatDoor

namespace Go.Proofs.YtoofphhfealcaaaGreatDoor
open Go.RowKit
theorem am_at {Z xs : List Int} {y : Int} {i : Nat} (hl : Z.length = xs.length + i) : val (Z.take i ++ (amL (Z.drop i) xs y 0 ++ [amC (Z.drop i) xs y 0])) = val Z + BW ^ i * (val xs * y) := by
  have hdl : (Z.drop i).length = xs.length := by rw [List.length_drop]; omega
  have hal := amL_len (Z.drop i) xs y 0 hdl
  have htl : (Z.take i).length = i := by rw [List.length_take]; omega
  have h1 := val_am (Z.drop i) xs y 0 hdl
  have h2 := val_append (Z.take i) (Z.drop i)
  rw [List.take_append_drop, htl] at h2
  rw [val_append, htl, val_snoc, hal, h2]
  generalize (BW : Int) ^ i = P at *
  generalize (BW : Int) ^ (Z.drop i).length = P2 at *
  grind
/-- The walk's state: the squares' words Z, the products' words T (its first word is 0). -/
structure SqS (xs Z T : List Int) (i : Nat) : Prop where
  zl : Z.length = 2 * i
  tl : T.length = 2 * i - 1
  zw : Words Z
  tw : Words T
  hd : T.head? = some 0
  v : val Z + 2 * val T = val (xs.take i) * val (xs.take i)
/-- The products' words behind one round more. -/
def sqT (xs T : List Int) (i : Nat) (d : Int) : List Int := (T ++ [0]).take i ++ (amL ((T ++ [0]).drop i) (xs.take i) d 0 ++ [amC ((T ++ [0]).drop i) (xs.take i) d 0])
theorem sqS_step {xs Z T : List Int} {i : Nat} (h : SqS xs Z T i) (hx : Words xs) (h1 : 1 ≤ i) (hi : i < xs.length) :
    SqS xs (Z ++ [mLo xs[i] xs[i] 0, mHi xs[i] xs[i] 0]) (sqT xs T i xs[i]) (i + 1) := by
  have hd := words_get hx i hi
  have hbp := bw_pos
  have htk : (xs.take i).length = i := by rw [List.length_take]; omega
  have hTl : (T ++ [0]).length = (xs.take i).length + i := by rw [htk, List.length_append, h.tl]; simp; omega
  have hTw : Words (T ++ [0]) := words_append h.tw (words_cons ⟨by omega, hbp⟩ (fun z hz => by simp at hz))
  have hdl : ((T ++ [0]).drop i).length = (xs.take i).length := by rw [List.length_drop]; omega
  have hal := amL_len ((T ++ [0]).drop i) (xs.take i) xs[i] 0 hdl
  have hc := amC_rng ((T ++ [0]).drop i) (xs.take i) xs[i] 0 (words_drop hTw i) (words_take hx i) hd.1 hd.2 (by omega) hbp
  have hv := am_at (y := xs[i]) hTl
  have hv0 : val (T ++ [0]) = val T := by rw [val_snoc]; omega
  rw [hv0] at hv
  have h3 : val (xs.take (i + 1)) = val (xs.take i) + BW ^ i * xs[i] := by
    rw [List.take_succ_eq_append_getElem hi, val_snoc, htk]
  have hlo := mLoHi xs[i] xs[i] 0
  refine ⟨by simp only [List.length_append, List.length_cons, List.length_nil, h.zl]; omega, ?_, ?_, ?_, ?_, ?_⟩
  · unfold sqT
    simp only [List.length_append, List.length_cons, List.length_nil, hal, List.length_take] at hTl htk hdl ⊢
    rw [List.length_drop]
    simp only [List.length_append, List.length_cons, List.length_nil]
    have := h.tl
    omega
  · exact words_append h.zw (words_cons (mLo_rng _ _ _) (words_cons (mHi_rng2 _ _ _ hd.1 hd.2 hd.1 hd.2 (by omega) (by omega)) (fun z hz => by simp at hz)))
  · exact words_append (words_take hTw i) (words_append (words_am _ _ _ _) (words_cons hc (fun z hz => by simp at hz)))
  · obtain ⟨T1, rfl⟩ : ∃ T1, T = 0 :: T1 := by
      have := h.hd
      rcases T with _ | ⟨t, T1⟩
      · simp at this
      · simp at this
        exact ⟨T1, by rw [this]⟩
    obtain ⟨j, rfl⟩ : ∃ j, i = j + 1 := ⟨i - 1, by omega⟩
    unfold sqT
    simp
  · unfold sqT
    rw [hv, val_append, h.zl, h3]
    have h4 := h.v
    have hp : (BW : Int) ^ (2 * i) = BW ^ i * BW ^ i := by rw [← Int.pow_add, show i + i = 2 * i by omega]
    simp only [val, hp]
    generalize (BW : Int) ^ i = P at *
    grind
/-- Doubled and added: the square. -/
theorem sqS_end {xs Z T1 : List Int} {n : Nat} (h : SqS xs Z (0 :: T1) n) (hx : Words xs) (hn : xs.length = n) (h1 : 1 ≤ n) :
    (0 :: (mvL T1 2 0 ++ [mvC T1 2 0])).length = 2 * n ∧ Words (0 :: (mvL T1 2 0 ++ [mvC T1 2 0])) ∧ val (avL Z (0 :: (mvL T1 2 0 ++ [mvC T1 2 0])) 0) = val xs * val xs := by
  have hbp := bw_pos
  have htl := h.tl
  simp only [List.length_cons] at htl
  have hT1 : Words T1 := fun z hz => h.tw z (by simp [hz])
  have hl : (0 :: (mvL T1 2 0 ++ [mvC T1 2 0])).length = 2 * n := by
    simp only [List.length_cons, List.length_append, mvL_len, List.length_nil]
    omega
  have hc := mvC_rng T1 2 0 hT1 (by omega) (by unfold BW; omega) (by omega) hbp
  have hw : Words (0 :: (mvL T1 2 0 ++ [mvC T1 2 0])) := words_cons ⟨by omega, hbp⟩ (words_snoc (words_mv _ _ _) hc)
  refine ⟨hl, hw, ?_⟩
  have hm := val_mv T1 2 0
  have hD : val (0 :: (mvL T1 2 0 ++ [mvC T1 2 0])) = 2 * val (0 :: T1) := by
    simp only [val]
    rw [val_snoc, mvL_len, hm]
    grind
  have ha := val_av Z _ 0 (h.zl.trans hl.symm)
  rw [hD, h.zl] at ha
  have hv := h.v
  rw [List.take_of_length_le (by omega)] at hv
  have hxn := val_nonneg xs hx
  have hxl := val_lt xs hx
  rw [hn] at hxl
  have hlt : val xs * val xs < BW ^ (2 * n) := by
    have hp : (BW : Int) ^ (2 * n) = BW ^ n * BW ^ n := by rw [← Int.pow_add, show n + n = 2 * n by omega]
    rw [hp]
    generalize (BW : Int) ^ n = P at *
    have h5 : val xs * val xs ≤ (P - 1) * (P - 1) := Int.mul_le_mul (by omega) (by omega) hxn (by omega)
    have h6 : (P - 1) * (P - 1) = P * P - 2 * P + 1 := by grind
    omega
  have hcr := avC_rng Z (0 :: (mvL T1 2 0 ++ [mvC T1 2 0])) 0 h.zw hw (by omega) (by omega)
  have hal := val_nonneg _ (words_av Z (0 :: (mvL T1 2 0 ++ [mvC T1 2 0])) 0)
  have hP := bwp_pos (2 * n)
  generalize avC Z (0 :: (mvL T1 2 0 ++ [mvC T1 2 0])) 0 = C at *
  generalize val (avL Z (0 :: (mvL T1 2 0 ++ [mvC T1 2 0])) 0) = A at *
  generalize (BW : Int) ^ (2 * n) = P at *
  generalize val xs * val xs = X at *
  have hC : C = 0 ∨ C = 1 := by omega
  rcases hC with rfl | rfl
  · omega
  · omega
/-- Two words more behind those that stand in a row, the upper one first. -/
theorem natB_two {w : World} {b c : Nat} {Z : List Int} (h : NatB w b c Z) (hc : Z.length + 2 ≤ c) (k : Nat) (hk : k = Z.length) (lo hi : Int) :
    NatB ((w.setCell ⟨b, k + 1, none⟩ (.int .u64 hi)).setCell ⟨b, k, none⟩ (.int .u64 lo)) b c (Z ++ [lo, hi]) := by
  subst hk
  obtain ⟨cur, a, e⟩ := h.blk
  obtain ⟨u0, hu0⟩ : ∃ u, w.cell? ⟨b, Z.length, none⟩ = some u := ⟨cur[Z.length], by rw [cell_of_row _ _ _ _ _ _ a]; simp⟩
  obtain ⟨u1, hu1⟩ : ∃ u, w.cell? ⟨b, Z.length + 1, none⟩ = some u := ⟨cur[Z.length + 1], by rw [cell_of_row _ _ _ _ _ _ a]; simp⟩
  refine natB_row ⟨_, heap_setCell_at _ b _ _ _ 156 (0, 0) (heap_setCell_at w b _ _ cur 156 (0, 0) a), by simpa using e⟩ (fun j hj => ?_) (by simpa using hc)
  rw [Nat.zero_add]
  simp at hj
  by_cases h1 : j < Z.length
  · rw [World.cell?_setCell_other _ _ _ _ (by simp <;> omega), World.cell?_setCell_other _ _ _ _ (by simp <;> omega), List.getElem_append_left h1]
    have := h.rds j h1
    rwa [Nat.zero_add] at this
  · by_cases h2 : j = Z.length
    · subst h2
      rw [World.cell?_setCell_same _ _ _ (by rw [World.cell?_setCell_other _ _ _ _ (by simp)]; exact hu0)]
      simp
    · obtain rfl : j = Z.length + 1 := by omega
      rw [World.cell?_setCell_other _ _ _ _ (by simp), World.cell?_setCell_same _ _ _ hu1]
      simp
end Go.Proofs.YtoofphhfealcaaaGreatDoor

namespace Go.Proofs.YtoofphhfealcaaaGreatDoor
open Go.RowKit
theorem stk_row {w : World} {sb si g L : Nat} (h : StkAt w sb [si, g] L) : ∃ c, RowC w g c ∧ L ≤ c := by
  cases h with
  | row si b L c cur h h2 h3 hc hL => exact ⟨c, ⟨cur, h3, hc⟩, hL⟩
/-- A statement that ends in the ordinary way alone: what a panic would owe is not asked. -/
theorem wp_then {P : Program} {c : Code} {K : Act → World → Prop} {Q : Exit → Act → World → Prop} {a : Act} {w : World} (h : c.wp P (Exit.then K (fun _ _ _ => False)) a w) : c.wp P (Exit.then K Q) a w :=
  wp_mono h (fun e a w => by cases e <;> simp [Exit.then])
theorem elem110 : Tryz.prog.underlying 110 = some (.slice (Tryz.prog.elem 110)) := by kernel_rfl
theorem elem110' : Tryz.prog.elem 110 = 156 := by kernel_rfl
theorem size156r (W : World) : (sizeOf 156).run Tryz.prog W = .ok 1 W := by
  obtain ⟨i0, hi, hzz⟩ := Option.map_eq_some_iff.1 size156
  simp [sizeOf, typeInfo, hi, hzz]
/-- A part of a row of words. -/
theorem slice_words (g n c i k : Nat) (h1 : i ≤ k) (h2 : k ≤ c) (h3 : i < c) (W : World) : (Instr.slice 110 (.slice (some ⟨g, 0, none⟩) n c) (some (.int .i64 (i : Int))) (some (.int .i64 (k : Int))) none).run Tryz.prog W = .ok (.slice (some ⟨g, i, none⟩) (k - i) (c - i)) W := by
  rw [run_slice_lh (P := Tryz.prog) (w := W) 110 (some ⟨g, 0, none⟩) n c elem110 .i64 .i64 (i : Int) (k : Int) (by omega) (by omega) (by omega), elem110', size156r]
  simp [Result.andThen, sliced, Addr.add_lit, Int.toNat_natCast]
  intro h
  omega
theorem mul2 (i k : Nat) (e : 2 * i = k) (hk : k ≤ 1000000) (W : World) : (binOp .mul 3 (.int .i64 2) (.int .i64 (i : Int))).run Tryz.prog W = .ok (.int .i64 (k : Int)) W := by
  have e1w : IntKind.i64.wrap (2 * (i : Int)) = (k : Int) := by rw [IntKind.wrap_i64]; omega
  simp [go_sem, e1w]
def onlyN (Q : Exit → Act → World → Prop) : Exit → Act → World → Prop
  | .normal, a, w => Q .normal a w
  | _, _, _ => False
theorem wp_only {P : Program} {c : Code} {Q : Exit → Act → World → Prop} {a : Act} {w : World} (h : c.wp P (onlyN Q) a w) : c.wp P Q a w :=
  wp_mono h (fun e a w => by cases e <;> simp [onlyN])
/-- What the loop has in hand. -/
def SqW (w1 wr : World) (zb zc g gc : Nat) (xs : List Int) (i : Nat) : Prop :=
  ∃ Z T, SqS xs Z T i ∧ NatB wr zb zc Z ∧ NatB wr g gc (T ++ List.replicate (32 - (2 * i - 1)) 0) ∧ Kp [zb, g] w1 wr
theorem sqW_drew {w1 wr : World} {zb zc g gc : Nat} {xs : List Int} {i : Nat} (h : SqW w1 wr zb zc g gc xs i) : SqW w1 wr.drew zb zc g gc xs i := by
  obtain ⟨Z, T, a, b, c, d⟩ := h
  exact ⟨Z, T, a, natB_of b rfl, natB_of c rfl, ⟨d.os, d.tape, d.output, d.size, d.block⟩⟩
theorem sq_lists {T : List Int} {i : Nat} (h1 : 1 ≤ i) (h2 : i < 16) : T ++ List.replicate (32 - (2 * i - 1)) 0 = (T ++ [0]).take i ++ ((T ++ [0]).drop i ++ (0 :: List.replicate (32 - (2 * (i + 1) - 1)) 0)) := by
  rw [← List.append_assoc, List.take_append_drop, List.append_assoc, List.singleton_append, ← List.replicate_succ, ← List.replicate_succ]
  congr 2
  omega
/-- Behind the square of one word. -/
theorem sqW_mid {w1 wr : World} {zb zc g gc : Nat} {xs Z T : List Int} {i k : Nat} (h : SqS xs Z T i ∧ NatB wr zb zc Z ∧ NatB wr g gc (T ++ List.replicate (32 - (2 * i - 1)) 0) ∧ Kp [zb, g] w1 wr) (hk : 2 * i = k) (hz : Z.length = k) (hne : zb ≠ g) (lo hi : Int) (hc : k + 2 ≤ zc) :
    NatB ((wr.setCell ⟨zb, k + 1, none⟩ (.int .u64 hi)).setCell ⟨zb, k, none⟩ (.int .u64 lo)) zb zc (Z ++ [lo, hi]) ∧ NatB ((wr.setCell ⟨zb, k + 1, none⟩ (.int .u64 hi)).setCell ⟨zb, k, none⟩ (.int .u64 lo)) g gc (T ++ List.replicate (32 - (2 * i - 1)) 0) ∧
      Kp [zb, g] w1 ((wr.setCell ⟨zb, k + 1, none⟩ (.int .u64 hi)).setCell ⟨zb, k, none⟩ (.int .u64 lo)) := by
  obtain ⟨_, b, c, d⟩ := h
  exact ⟨natB_two b (by omega) k hz.symm lo hi, natB_of c (by rw [Below.heap_setCell _ _ _ _ (by simpa using hne.symm), Below.heap_setCell _ _ _ _ (by simpa using hne.symm)]), (d.setCell (by simp) _).setCell (by simp) _⟩
theorem sqW_next {w1 w5 w6 : World} {zb zc g gc : Nat} {xs Z T : List Int} {i k : Nat} {d cy : Int} (h : SqS xs Z T i) (hx : Words xs) (h1 : 1 ≤ i) (hi : i < xs.length) (hd : d = xs[i])
    (h5 : NatB w5 zb zc (Z ++ [mLo d d 0, mHi d d 0]) ∧ NatB w5 g gc (T ++ List.replicate (32 - (2 * i - 1)) 0) ∧ Kp [zb, g] w1 w5) (hs : Seg (w5.drewN 1) w6 g i (amL ((T ++ [0]).drop i) (xs.take i) d 0))
    (h6 : NatB w6 g gc ((T ++ [0]).take i ++ (amL ((T ++ [0]).drop i) (xs.take i) d 0 ++ (0 :: List.replicate (32 - (2 * (i + 1) - 1)) 0)))) (hU1 : ((T ++ [0]).take i).length = i) (hU2 : ((T ++ [0]).drop i).length = i) (hal : (amL ((T ++ [0]).drop i) (xs.take i) d 0).length = ((T ++ [0]).drop i).length)
    (hcy : cy = amC ((T ++ [0]).drop i) (xs.take i) d 0) (hk : 2 * i = k) (hne : zb ≠ g) : SqW w1 (w6.setCell ⟨g, k, none⟩ (.int .u64 cy)) zb zc g gc xs (i + 1) := by
  have hst := sqS_step h hx h1 hi
  rw [← hd] at hst
  refine ⟨_, _, hst, natB_of (natB_kp (natB_drewN h5.1 1) hs.kp (by simpa using hne)) (Below.heap_setCell _ _ _ _ (by simpa using hne)), ?_, ?_⟩
  · have h7 := natB_set h6 (k := k) (by simp only [List.length_append, List.length_cons, hU1, hal, hU2]; omega) cy
    rw [show k = ((T ++ [0]).take i).length + (amL ((T ++ [0]).drop i) (xs.take i) d 0).length by rw [hU1, hal, hU2]; omega, set_mid] at h7
    rw [show k = ((T ++ [0]).take i).length + (amL ((T ++ [0]).drop i) (xs.take i) d 0).length by rw [hU1, hal, hU2]; omega, hcy]
    rw [hcy] at h7
    exact h7
  · exact ((h5.2.2.drewN 1).trans (kp_mono hs.kp (fun y hy => .inl (by simp at hy ⊢; exact .inr hy)))).setCell (by simp) _
theorem sqS_zero {xs Z T : List Int} {i : Nat} (h : SqS xs Z T i) : ∃ T1, T = 0 :: T1 := by
  have := h.hd
  rcases T with _ | ⟨t, T1⟩
  · simp at this
  · simp at this
    exact ⟨T1, by rw [this]⟩
theorem stk_rows {w w' : World} {sb si g L zb gc : Nat} (h : StkAt w sb [si, g] L) (hg : RowC w g gc) (hk : Kp [zb, g] w w') (hg' : RowC w' g gc) (h1 : sb ≠ zb) (h2 : si ≠ zb) : StkAt w' sb [si, g] L := by
  have hlt := stk_lt h
  cases h with
  | row si b L c cur a1 a2 a3 hc hL h63 hd hd2 hd3 =>
    obtain ⟨cur', b1, b2⟩ := hg'
    obtain ⟨cur0, b3, b4⟩ := hg
    rw [a3] at b3
    injection b3 with b3
    injection b3 with b3
    subst b3
    exact .row si g L c cur' (by rw [hk.block sb (hlt sb (by simp)) (by simp [h1, hd2])]; exact a1) (by rw [hk.block si (hlt si (by simp)) (by simp [h2, hd3])]; exact a2) b1 (by omega) hL h63 hd hd2 hd3
/-- What it leaves. -/
def SqBPost (w : World) (zb zc sb : Nat) (l : List Nat) (x : Int) (w' : World) : Prop :=
  ∃ Z l', Z.length = 32 ∧ NatB w' zb zc Z ∧ Words Z ∧ val Z = x ∧ StkAt w' sb l' 0 ∧ (∀ y ∈ l', y ∈ l ∨ w.heap.size ≤ y) ∧ Kp (zb :: sb :: l) w w'
theorem sqB_fin {w w1 w7 w8 w9 : World} {zb zc sb si g : Nat} {l : List Nat} {Z : List Int} {x : Int} (hN : NatPost w w1 sb l 0 32 32 si g) (hk7 : Kp [zb, g] w1 w7) (hz : RowC w7 zb zc) (hs : Seg w7 w8 zb 0 Z) (hR : RestPost sb [si, g] 0 w8 w9)
    (hl : Z.length = 32) (hfit : 32 ≤ zc) (hw : Words Z) (hv : val Z = x) (hzb : zb ∉ sb :: [si, g]) : SqBPost w zb zc sb l x w9 := by
  have h8 : NatB w8 zb zc Z := natB_row (rowC_seg hz hs) hs.rds (by omega)
  refine ⟨Z, [si, g], hl, natB_kp h8 hR.2 hzb, hw, hv, hR.1, hN.new, ?_⟩
  have k1 : Kp (zb :: sb :: l) w w1 := kp_mono hN.kp (fun y hy => .inl (by simp only [List.mem_cons] at hy ⊢; exact .inr hy))
  have hg : ∀ y, y = g ∨ y = si → y ∈ zb :: sb :: l ∨ w.heap.size ≤ y := fun y hy => by
    rcases hN.new y (by simp; rcases hy with h | h <;> simp [h]) with h | h
    · exact .inl (by simp [h])
    · exact .inr h
  refine kp_step (kp_step (kp_step k1 hk7 (fun y hy => ?_)) hs.kp (fun y hy => ?_)) hR.2 (fun y hy => ?_)
  · simp only [List.mem_cons, List.mem_nil_iff, or_false] at hy
    rcases hy with rfl | rfl
    · exact .inl (by simp)
    · exact hg _ (.inl rfl)
  · obtain rfl : y = zb := by simpa using hy
    exact .inl (by simp)
  · simp only [List.mem_cons, List.mem_nil_iff, or_false] at hy
    rcases hy with rfl | rfl | rfl
    · exact .inl (by simp)
    · exact hg _ (.inr rfl)
    · exact hg _ (.inl rfl)

set_option maxRecDepth 100000 in
set_option maxHeartbeats 8000000 in
theorem basicSqr16 (zb zc xb xc sb : Nat) (l : List Nat) (xs : List Int) (w : World) (hxl : xs.length = 16) (hX : Words xs) (hS : StkAt w sb l 0) (hRow : RowC w zb zc) (hfit : 32 ≤ zc) (hB : NatB w xb xc xs) (d1 : zb ∉ sb :: l) (d2 : xb ∉ zb :: sb :: l)
    (h15 : w.cell? ⟨15, 0, none⟩ = some (.int .i64 12)) :
    Calls Tryz.prog 210 #[.pointer (some ⟨sb, 0, none⟩), .slice (some ⟨zb, 0, none⟩) 32 zc, .slice (some ⟨xb, 0, none⟩) 16 xc] w fun e w' => (∃ v, e = .returned v) ∧ SqBPost w zb zc sb l (val xs * val xs) w' := by
  have HSN : Hid (Calls Tryz.prog 231 #[.pointer (some ⟨sb, 0, none⟩), .int .i64 32] w fun e w' => ∃ si g, e = .returned (.slice (some ⟨g, 0, none⟩) 32 32) ∧ NatPost w w' sb l 0 32 32 si g) := stackNat_any sb 0 32 32 l w hS (by omega) (by kernel_rfl) (Nat.le_refl _) (by omega)
  have hzlt := rowC_lt hRow
  have hxlt := natB_lt hB
  have hx0 : 0 < xs.length := by omega
  have hc0 : w.cell? ⟨xb, 0, none⟩ = some (.int .u64 xs[0]) := natB_cell hB (k := 0) hx0
  have hxw := words_get hX 0 hx0
  obtain ⟨x0, hx0e⟩ : ∃ x0, x0 = xs[0] := ⟨_, rfl⟩
  rw [← hx0e] at hc0 hxw
  have HW := Lib.hid (fun W => mulWW_any x0 x0 W hxw.1 hxw.2 hxw.1 hxw.2)
  have hxc := hB.fit
  have hx16 : 16 ≤ xc := by omega
  have HXL := Lib.hid hxl; have HX := Lib.hid hX; have HS := Lib.hid hS; have HROW := Lib.hid hRow; have HB := Lib.hid hB; have HD1 := Lib.hid d1; have HD2 := Lib.hid d2; have HX0E := Lib.hid hx0e; have HZLT := Lib.hid hzlt; have HXLT := Lib.hid hxlt; have HC0 := Lib.hid hc0
  clear hxl hX hS hRow hB d1 d2 hx0e hxw hxc hc0 hzlt hxlt
  go_enter_defers Tryz.func210, Tryz.ntmps210
  go_upto_region 4 with (go_at_call 230; refine (save_any sb 0 l _ HS.out).mono ?_; rintro e w' ⟨rfl, rfl⟩)
  go_upto_region 5 with (go_at_call 231; refine HSN.out.mono ?_; rintro e w1 ⟨si, g, rfl, hN⟩; have HN := Lib.hid hN; clear hN)
  obtain ⟨gc, hgr, hgc⟩ := stk_row HN.out.stk
  have hgnew : ∀ x ∈ [si, g], x ∈ l ∨ w.heap.size ≤ x := HN.out.new
  have hzg : zb ≠ g := fun h => by
    rcases hgnew g (by simp) with h1 | h1
    · exact HD1.out (by rw [h]; simp [h1])
    · have := HZLT.out; omega
  have hxg : xb ≠ g := fun h => by
    rcases hgnew g (by simp) with h1 | h1
    · exact HD2.out (by rw [h]; simp [h1])
    · have := HXLT.out; omega
  have hxz : xb ≠ zb := fun h => HD2.out (by rw [h]; simp)
  have hz1 : RowC w1 zb zc := rowC_kp HROW.out HN.out.kp HD1.out
  have hx1 : NatB w1 xb xc xs := natB_kp HB.out HN.out.kp (fun h => HD2.out (by simp only [List.mem_cons] at h ⊢; exact .inr h))
  have hcx1 : w1.cell? ⟨xb, 0, none⟩ = some (.int .u64 x0) := HN.out.kp.cell HC0.out (fun h => HD2.out (by simp only [List.mem_cons] at h ⊢; exact .inr h))
  have hroom : Room w1 g 0 32 := rowC_room hgr (by omega)
  obtain ⟨ZL, hZL⟩ : ∃ ZL : List Value, ZL = List.replicate 32 (.int .u64 0) := ⟨_, rfl⟩
  have hcl : ∀ ty, (Builtin.clear_ #[110] ty #[.slice (some ⟨g, 0, none⟩) 32 32]).run Tryz.prog w1 = .ok (.tuple #[]) (w1.setCells g 0 ZL) := fun ty => by
    rw [hZL]
    exact Lib.run_clear_slice w1 110 156 ty (.int .u64 0) (by kernel_rfl) (fun W => by kernel_rfl) rfl rfl g 0 32 32 (by omega) (fun j hj => by obtain ⟨u, hu⟩ := (hroom j hj).1; rw [hu]; rfl) (fun j hj => (hroom j hj).2)
  have HROOM := Lib.hid hroom; have HGR := Lib.hid hgr; have HZG := Lib.hid hzg; have HXG := Lib.hid hxg; have HXZ := Lib.hid hxz; have HZ1 := Lib.hid hz1; have HX1 := Lib.hid hx1; have HGN := Lib.hid hgnew; have HCX1 := Lib.hid hcx1
  have HZL := Lib.hid hZL
  clear hroom hgr hzg hxg hxz hz1 hx1 hgnew hcx1 hZL
  go_upto_region 6 with fail
  have hs1 : Seg w1 (w1.setCells g 0 ZL) g 0 (List.replicate 32 0) := by
    rw [HZL.out]
    have := seg_of_setCells w1 g 0 (List.replicate 32 0) (by simpa using HROOM.out)
    simpa [wv] using this
  generalize w1.setCells g 0 ZL = w2 at hs1 ⊢
  have hk2 : Kp [zb, g] w1 w2 := kp_mono hs1.kp (fun y hy => .inl (by simp at hy ⊢; exact .inr hy))
  have hz2 : RowC w2 zb zc := rowC_kp HZ1.out hs1.kp (by simpa using HZG.out)
  have hg2 : NatB w2 g gc (List.replicate 32 0) := natB_row (rowC_seg HGR.out hs1) hs1.rds (by simpa using hgc)
  have hcx2 : w2.cell? ⟨xb, 0, none⟩ = some (.int .u64 x0) := hs1.kp.cell HCX1.out (by simpa using HXG.out)
  obtain ⟨⟨u0, hu0⟩, hf0⟩ := rowC_room (o := 0) (n := 2) hz2 (by omega) 0 (by omega)
  obtain ⟨⟨u1, hu1⟩, hf1⟩ := rowC_room (o := 0) (n := 2) hz2 (by omega) 1 (by omega)
  rw [Nat.zero_add] at hu0 hf0 hu1 hf1
  have HK2 := Lib.hid hk2; have HZ2 := Lib.hid hz2; have HG2 := Lib.hid hg2
  clear hs1 hk2 hz2 hg2 hcl
  go_cut [7] from 27 to 40 (fun tv wx => tv = .slice (some ⟨g, 0, none⟩) 32 32 ∧ Hid (SqW w1 wx zb zc g gc xs 1))
  case first =>
    refine wp_then ?_
    go_region_with (first | (go_at_call 208; refine (HW.out _).mono ?_; rintro e w3 ⟨rfl, rfl⟩))
    all_goals
      go_wp2_with fail
      go_meet
      refine ⟨rfl, sqW_drew ?_⟩
      have hz0 : NatB w2 zb zc [] := natB_row HZ2.out (reads_nil _ _ _) (Nat.zero_le _)
      have hz := natB_two hz0 (by simp; omega) 0 rfl (mLo x0 x0 0) (mHi x0 x0 0)
      have hxw := words_get HX.out 0 hx0
      rw [← HX0E.out] at hxw
      have hbp := bw_pos
      refine ⟨[mLo x0 x0 0, mHi x0 x0 0], [0], ⟨rfl, rfl, words_cons (mLo_rng _ _ _) (words_cons (mHi_rng2 _ _ _ hxw.1 hxw.2 hxw.1 hxw.2 (by omega) (by omega)) (fun z hz => by simp at hz)), words_cons ⟨by omega, hbp⟩ (fun z hz => by simp at hz), rfl, ?_⟩, hz, ?_, (HK2.out.setCell (by simp) _).setCell (by simp) _⟩
      · rw [List.take_succ_eq_append_getElem hx0, ← HX0E.out]
        simp only [List.take_zero, List.nil_append, val, Int.mul_zero, Int.add_zero]
        have := mLoHi x0 x0 0
        omega
      · exact natB_of HG2.out (by rw [Below.heap_setCell _ _ _ _ (by simpa using Ne.symm HZG.out), Below.heap_setCell _ _ _ _ (by simpa using Ne.symm HZG.out)])
  case rest =>
    obtain ⟨rfl, hloop0⟩ := hcut
    clear hcx2 HCX1 HC0 HG2 HZ2 HK2 HW hu0 hu1 hf0 hf1
    go_upto_region 8 with fail
    go_loopw [8] (fun iv wr => ∃ i : Nat, iv = .int .i64 i ∧ 1 ≤ i ∧ i ≤ 16 ∧ Hid (SqW w1 wr zb zc g gc xs i)) (fun iv _ => 16 - (intOf iv).toNat)
    case atStart => exact ⟨1, rfl, by omega, by omega, hloop0⟩
    case round =>
      obtain ⟨i, rfl, hi1, hi16, HI⟩ := hrel
      clear hloop0
      by_cases hi : i < 16
      · obtain ⟨Z, T, hq⟩ := HI.out
        have HQ := Lib.hid hq
        clear hq HI
        have hix : i < xs.length := by rw [HXL.out]; exact hi
        obtain ⟨d, hd⟩ : ∃ d, d = xs[i] := ⟨_, rfl⟩
        have hdw := words_get HX.out i hix
        rw [← hd] at hdw
        have hkp := Lib.hid HQ.out.2.2.2
        have hxr : NatB wr xb xc xs := natB_kp HX1.out hkp.out (by simp; exact ⟨HXZ.out, HXG.out⟩)
        have hcx : wr.cell? ⟨xb, i, none⟩ = some (.int .u64 d) := by rw [hd]; exact natB_cell hxr hix
        have HD := Lib.hid hd; have HXR := Lib.hid hxr; have HDW := Lib.hid hdw
        have HW := Lib.hid (fun W => mulWW_any d d W hdw.1 hdw.2 hdw.1 hdw.2)
        clear hd hxr hdw
        obtain ⟨k, e1, e2, hk1, hk2⟩ : ∃ k : Nat, 2 * (i : Int) = (k : Int) ∧ 2 * i = k ∧ k + 1 < 32 ∧ k - i = i := ⟨2 * i, by omega, rfl, by omega, by omega⟩
        have HK := Lib.hid e2
        have e1w : IntKind.i64.wrap (2 * (i : Int)) = (k : Int) := by rw [e1, IntKind.wrap_i64]; omega
        have hik : i ≤ k := by omega
        have h32 : ¬ 32 = i := by omega
        have h32b : ¬ i = 32 := by omega
        have h32c : (32 : Nat) - i ≠ 0 := by omega
        have hk32 : (k : Int) ≤ 32 := by omega
        have hk31 : (k : Int) < 32 := by omega
        have hixc : i ≤ xc := by omega
        obtain ⟨⟨u0, hu0⟩, hf0⟩ := rowC_room (o := 0) (n := 32) HQ.out.2.1.blk (by omega) k (by omega)
        obtain ⟨⟨u1, hu1⟩, hf1⟩ := rowC_room (o := 0) (n := 32) HQ.out.2.1.blk (by omega) (k + 1) (by omega)
        rw [Nat.zero_add] at hu0 hf0 hu1 hf1
        clear e2
        go_upto_region 11 with fail
        go_upto_region 12 with (go_at_call 208; refine (HW.out _).mono ?_; rintro e w4 ⟨rfl, rfl⟩)
        have hw5 := sqW_mid HQ.out HK.out (by have := HQ.out.1.zl; have := HK.out; omega) HZG.out (mLo d d 0) (mHi d d 0) (by omega)
        generalize (wr.setCell ⟨zb, k + 1, none⟩ (.int .u64 (mHi d d 0))).setCell ⟨zb, k, none⟩ (.int .u64 (mLo d d 0)) = w5 at hw5 ⊢
        have HW5 := Lib.hid hw5
        clear hw5 hu0 hu1 hf0 hf1 hcx hkp
        have htk : (xs.take i).length = i := by rw [List.length_take]; omega
        have htl := HQ.out.1.tl
        have hUl : (T ++ [0]).length = i + i := by simp only [List.length_append, List.length_cons, List.length_nil]; omega
        have hU1 : ((T ++ [0]).take i).length = i := by rw [List.length_take]; omega
        have hU2 : ((T ++ [0]).drop i).length = i := by rw [List.length_drop]; omega
        have hUw : Words (T ++ [0]) := words_append HQ.out.1.tw (words_cons ⟨by omega, bw_pos⟩ (fun z hz => by simp at hz))
        have hgl : NatB (w5.drewN 1) g gc ((T ++ [0]).take i ++ ((T ++ [0]).drop i ++ (0 :: List.replicate (32 - (2 * (i + 1) - 1)) 0))) := by
          have := natB_drewN HW5.out.2.1 1
          rwa [sq_lists hi1 hi] at this
        have hxr5 : NatB (w5.drewN 1) xb xc xs := natB_drewN (natB_kp HX1.out HW5.out.2.2 (by simp; exact ⟨HXZ.out, HXG.out⟩)) 1
        have HC := Lib.hid (addMulVVWW_seg g i (32 - i) g i (32 - i) xb 0 xc i ((T ++ [0]).drop i) (xs.take i) d (w5.drewN 1) HDW.out.1 HDW.out.2 hU2 htk (words_drop hUw i) (words_take HX.out i) (by omega)
          (by have := natB_sub hgl; rw [hU1] at this; exact this) (natB_take hxr5 i).rds (rowC_room hgl.blk (by omega)) (.inr (.inl (Nat.le_refl _))) (.inl HXG.out))
        have HGL := Lib.hid hgl; have HU1 := Lib.hid hU1; have HU2 := Lib.hid hU2; have HTK := Lib.hid htk
        obtain ⟨cy, hcy⟩ : ∃ cy, cy = amC ((T ++ [0]).drop i) (xs.take i) d 0 := ⟨_, rfl⟩
        rw [← hcy] at HC
        have HCY := Lib.hid hcy
        clear htk htl hUl hU1 hU2 hUw hgl hxr5 hcy HXR
        have hsl : ∀ W, (Instr.slice 110 (.slice (some ⟨g, 0, none⟩) 32 32) (some (.int .i64 (i : Int))) (some (.int .i64 (k : Int))) none).run Tryz.prog W = .ok (.slice (some ⟨g, i, none⟩) i (32 - i)) W := fun W => by
          have := slice_words g 32 32 i k hik (by omega) (by omega) W
          rwa [hk2] at this
        have ek : IntKind.i64.wrap (k : Int) = (k : Int) := by rw [IntKind.wrap_i64]; omega
        clear hsl e1w
        refine wp_only ?_
        go_region_with (first | (go_at_call 228; refine HC.out.mono ?_; rintro e w6 ⟨rfl, hs6⟩; have hal : (amL ((T ++ [0]).drop i) (xs.take i) d 0).length = ((T ++ [0]).drop i).length := amL_len _ _ _ _ (by rw [HU2.out, HTK.out]); have h6 := natB_seg HGL.out hs6 HU1.out.symm hal; obtain ⟨⟨u6, hu6⟩, hf6⟩ := rowC_room (o := 0) (n := 32) h6.blk (by omega) k (by omega); rw [Nat.zero_add] at hu6 hf6; have HN6 := Lib.hid h6; have HAL := Lib.hid hal; have HS6 := Lib.hid hs6; clear h6 hal hs6))
        all_goals
          simp only [onlyN]
          go_wp2_with fail
          refine ⟨⟨i + 1, by go_num, by omega, by omega, sqW_next HQ.out.1 HX.out hi1 hix HD.out HW5.out HS6.out HN6.out HU1.out HU2.out HAL.out HCY.out HK.out HZG.out⟩, by simp [intOf]; omega⟩
      · obtain rfl : i = 16 := by omega
        obtain ⟨Z, T, hq, hz, hg, hkp⟩ := HI.out
        obtain ⟨T1, rfl⟩ := sqS_zero hq
        have htl := hq.tl
        have ht30 : T1.length = 30 := by simp at htl; omega
        have hT1w : Words T1 := fun z hz => hq.tw z (by simp [hz])
        have hg2 : NatB (wr.drewN 1) g gc ([0] ++ (T1 ++ [0])) := by
          have := natB_drewN hg 1
          simpa using this
        have HL := Lib.hid (lshVU_one g 1 31 g 1 31 30 T1 (wr.drewN 1) ht30 (by omega) hT1w (by omega) (natB_sub hg2) (rowC_room hg2.blk (by omega)) (.inr (Nat.le_refl _)))
        have HQ := Lib.hid hq; have HZ := Lib.hid hz; have HG2 := Lib.hid hg2; have HKP := Lib.hid hkp; have HT30 := Lib.hid ht30
        clear hq hz hg hkp htl ht30 hT1w hg2 HI
        go_upto_region 13 with fail
        refine wp_then ?_
        go_region_with (first | (go_at_call 232; refine HL.out.mono ?_; rintro e w6 ⟨rfl, hs6⟩; have h6 := natB_seg HG2.out hs6 rfl (mvL_len T1 2 0); obtain ⟨⟨u6, hu6⟩, hf6⟩ := rowC_room (o := 0) (n := 32) h6.blk (by omega) 31 (by omega); rw [Nat.zero_add] at hu6 hf6; have HN6 := Lib.hid h6; have HS6 := Lib.hid hs6; clear h6 hs6))
        all_goals
          obtain ⟨b1, b2, b3⟩ := sqS_end HQ.out HX.out HXL.out (by omega)
          have hn7 : NatB (w6.setCell ⟨g, 31, none⟩ (.int .u64 (mvC T1 2 0))) g gc (0 :: (mvL T1 2 0 ++ [mvC T1 2 0])) := by
            have h7 := natB_set HN6.out (k := 31) (by simp only [List.length_append, List.length_cons, List.length_nil, mvL_len, HT30.out]; omega) (mvC T1 2 0)
            have e : ([0] ++ (mvL T1 2 0 ++ [0])).set 31 (mvC T1 2 0) = 0 :: (mvL T1 2 0 ++ [mvC T1 2 0]) := by
              have h8 := set_mid [0] (mvL T1 2 0) [] (mvC T1 2 0)
              rw [mvL_len, HT30.out] at h8
              simpa using h8
            rwa [e] at h7
          have hk7 : Kp [zb, g] w1 (w6.setCell ⟨g, 31, none⟩ (.int .u64 (mvC T1 2 0))) := ((HKP.out.drewN 1).trans (kp_mono HS6.out.kp (fun y hy => .inl (by simp at hy ⊢; exact .inr hy)))).setCell (by simp) _
          have hz7 : NatB (w6.setCell ⟨g, 31, none⟩ (.int .u64 (mvC T1 2 0))) zb zc Z := natB_of (natB_kp (natB_drewN HZ.out 1) HS6.out.kp (by simpa using HZG.out)) (Below.heap_setCell _ _ _ _ (by simpa using HZG.out))
          generalize w6.setCell ⟨g, 31, none⟩ (.int .u64 (mvC T1 2 0)) = w7 at hn7 hk7 hz7 ⊢
          generalize 0 :: (mvL T1 2 0 ++ [mvC T1 2 0]) = D at b1 b2 b3 hn7
          have HAV := Lib.hid (addVV_seg zb 0 zc zb 0 zc g 0 32 32 Z D w7 HQ.out.zl b1 HQ.out.zw b2 (by omega) hz7.rds hn7.rds (natB_room hz7 (by omega)) (.inr (.inl (Nat.le_refl _))) (.inl HZG.out.symm))
          have HG7 := Lib.hid hn7.blk; have HB3 := Lib.hid b3; have HK7 := Lib.hid hk7; have HZ7 := Lib.hid hz7; have HB1 := Lib.hid b1
          clear b1 b2 b3 hn7 hk7 hz7 hu6 hf6 HN6 HS6
          go_wp2_with (go_at_call 233; refine HAV.out.mono ?_; rintro e w8 ⟨rfl, hs8⟩; have HS8 := Lib.hid hs8; clear hs8)
          simp only [bodyPostD]
          have hsi : si ≠ zb := fun h => by
            rcases HGN.out si (by simp) with h1 | h1
            · exact HD1.out (by rw [← h]; simp [h1])
            · have := HZLT.out; omega
          have hsb : sb ≠ zb := fun h => HD1.out (by simp [h])
          have hst8 : StkAt w8 sb [si, g] 32 := by
            have h7 : StkAt w7 sb [si, g] 32 := by
              have h0 := HN.out.stk
              rw [Nat.zero_add] at h0
              exact stk_rows h0 HGR.out HK7.out HG7.out hsb hsi
            exact stk_kp h7 HS8.out.kp (by simp; exact ⟨hsb, hsi, HZG.out.symm⟩)
          refine leaves_cons (f := 229) (args := #[.pointer (some ⟨sb, 0, none⟩), .int .i64 0]) (by simp) (by simp [go_sem]) ?_
          refine (restore_d sb 32 0 [si, g] .returning _ hst8 (by omega)).mono ?_
          rintro e u' w'' ⟨rfl, rfl, hR⟩
          refine ⟨_, by simp [results, Tryz.results210, go_sem]; try rfl, ⟨_, rfl⟩, ?_⟩
          have hl : (avL Z D 0).length = 32 := by rw [avL_len _ _ _ (HQ.out.zl.trans HB1.out.symm)]; exact HQ.out.zl
          exact sqB_fin HN.out HK7.out HZ7.out.blk HS8.out hR hl hfit (words_av Z D 0) HB3.out (by simp; exact ⟨hsb.symm, hsi.symm, HZG.out⟩)
end Go.Proofs.YtoofphhfealcaaaGreatDoor
