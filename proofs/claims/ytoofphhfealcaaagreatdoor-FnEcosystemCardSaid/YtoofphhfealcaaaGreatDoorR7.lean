/-
  WALKS: cmp of nat.
-/
import Derived.Test.YtoofphhfealcaaaGreatDoorR6
import Derived.BigQuiet
namespace Go.Proofs.YtoofphhfealcaaaGreatDoor
open Go.RowKit

theorem nrm_top {ys : List Int} {k : Nat} (hn : nrm ys = ys) (hl : ys.length = k + 1) : ys[k] ≠ 0 := fun h0 => by
  have h := List.take_succ_eq_append_getElem (show k < ys.length by omega)
  rw [h0, ← hl, List.take_length] at h
  have h2 := nrm_len (ys.take k)
  rw [h, nrm_snoc0] at hn
  have h3 := congrArg List.length hn
  rw [List.length_append, List.length_take] at h3
  rw [List.length_take] at h2
  simp at h3
  omega
theorem top_ge {ys : List Int} {k : Nat} (hw : Words ys) (hn : nrm ys = ys) (hl : ys.length = k + 1) : BW ^ k ≤ val ys := by
  have h1 := val_one ys k hl
  have h2 := val_nonneg _ (words_take hw k)
  have h3 := words_get hw k (by omega)
  have h4 := nrm_top hn hl
  have h5 : BW ^ k * 1 ≤ BW ^ k * ys[k] := Int.mul_le_mul_of_nonneg_left (by omega) (Int.le_of_lt (bwp_pos k))
  rw [Int.mul_one] at h5
  rw [h1]
  generalize BW ^ k * ys[k] = Y at *
  generalize BW ^ k = Z at *
  omega
theorem bwp_mono {a b : Nat} (h : a ≤ b) : (BW : Int) ^ a ≤ BW ^ b := by
  obtain ⟨d, rfl⟩ := Nat.exists_eq_add_of_le h
  rw [Int.pow_add]
  have h1 := bwp_pos a
  have h2 := bwp_pos d
  have : BW ^ a * 1 ≤ BW ^ a * BW ^ d := Int.mul_le_mul_of_nonneg_left (by omega) (by omega)
  rw [Int.mul_one] at this
  exact this
/-- A shorter number is smaller. -/
theorem val_shorter {xs ys : List Int} (hx : Words xs) (hy : Words ys) (hn : nrm ys = ys) (hl : xs.length < ys.length) : val xs < val ys := by
  obtain ⟨k, hk⟩ : ∃ k, ys.length = k + 1 := ⟨ys.length - 1, by omega⟩
  have h1 := val_lt xs hx
  have h2 := top_ge hy hn hk
  have h3 := bwp_mono (show xs.length ≤ k by omega)
  omega
/-- The first word from above that differs decides. -/
theorem val_at {xs ys : List Int} {j : Nat} (hx : Words xs) (hy : Words ys) (hl : j < xs.length) (hl2 : j < ys.length) (hd : xs.drop (j + 1) = ys.drop (j + 1)) (h : xs[j] < ys[j]) : val xs < val ys := by
  have e1 := val_split xs j (by omega)
  have e2 := val_split ys j (by omega)
  rw [List.drop_eq_getElem_cons hl, val, hd] at e1
  rw [List.drop_eq_getElem_cons hl2, val] at e2
  have h1 := val_lt _ (words_take hx j)
  rw [List.length_take, Nat.min_eq_left (by omega)] at h1
  have h2 := val_nonneg _ (words_take hy j)
  have h3 : BW ^ j * (xs[j] + BW * val (ys.drop (j + 1)) + 1) ≤ BW ^ j * (ys[j] + BW * val (ys.drop (j + 1))) := Int.mul_le_mul_of_nonneg_left (by omega) (Int.le_of_lt (bwp_pos j))
  rw [Int.mul_add, Int.mul_one] at h3
  rw [e1, e2]
  generalize BW ^ j * (xs[j] + BW * val (ys.drop (j + 1))) = A at *
  generalize BW ^ j * (ys[j] + BW * val (ys.drop (j + 1))) = B at *
  generalize BW ^ j = Z at *
  omega
/-- What cmp tells. -/
def CmpR (r x y : Int) : Prop := (r = -1 ∧ x < y) ∨ (r = 0 ∧ x = y) ∨ (r = 1 ∧ y < x)
set_option maxRecDepth 100000 in
set_option maxHeartbeats 4000000 in
theorem cmp_eq (xb xc yb yc n : Nat) (xs ys : List Int) (w : World) (hx : Words xs) (hy : Words ys) (hxl : xs.length = n) (hyl : ys.length = n) (h0 : 0 < n) (hn : n ≤ 1048576) (hRx : Reads w xb 0 xs) (hRy : Reads w yb 0 ys) :
    Calls Tryz.prog 194 #[.slice (some ⟨xb, 0, none⟩) n xc, .slice (some ⟨yb, 0, none⟩) n yc] w fun e w' => ∃ r, e = .returned (.int .i64 r) ∧ CmpR r (val xs) (val ys) ∧ ∃ n, w' = w.drewN n := by
  have HX := Lib.hid hx; have HY := Lib.hid hy; have HRX := Lib.hid hRx; have HRY := Lib.hid hRy; have HXL := Lib.hid hxl; have HYL := Lib.hid hyl
  have h1 : ((n : Int) == 0) = false := by rw [beq_eq_false_iff_ne]; omega
  clear hx hy hRx hRy hxl hyl
  go_enter Tryz.func194, Tryz.ntmps194
  go_wp2_with fail
  go_loopw [7] (fun i wr => ∃ j : Nat, j < n ∧ i = .int .i64 j ∧ Hid (xs.drop (j + 1) = ys.drop (j + 1)) ∧ ∃ q, wr = w.drewN q) (fun i _ => (intOf i).toNat)
  case atStart =>
    refine ⟨n - 1, by omega, by congr 1; omega, ?_, 0, rfl⟩
    show _ = _
    rw [List.drop_of_length_le (by have := HXL.out; omega), List.drop_of_length_le (by have := HYL.out; omega)]
  case round =>
    obtain ⟨j, hj, rfl, HD, q, rfl⟩ := hrel
    have hjx : j < xs.length := by have := HXL.out; omega
    have hjy : j < ys.length := by have := HYL.out; omega
    have hcx : w.cell? ⟨xb, j, none⟩ = some (.int .u64 xs[j]) := by have := HRX.out j hjx; rwa [Nat.zero_add] at this
    have hcy : w.cell? ⟨yb, j, none⟩ = some (.int .u64 ys[j]) := by have := HRY.out j hjy; rwa [Nat.zero_add] at this
    have HEX := Lib.hid (show xs.drop j = xs[j] :: xs.drop (j + 1) from List.drop_eq_getElem_cons hjx)
    have HEY := Lib.hid (show ys.drop j = ys[j] :: ys.drop (j + 1) from List.drop_eq_getElem_cons hjy)
    have HA : Hid (xs[j] < ys[j] → val xs < val ys) := fun h => val_at HX.out HY.out hjx hjy HD.out h
    have HB : Hid (ys[j] < xs[j] → val ys < val xs) := fun h => val_at HY.out HX.out hjy hjx HD.out.symm h
    generalize xs[j] = a at *
    generalize ys[j] = b at *
    clear hjx hjy
    by_cases hgo : 0 < j ∧ a = b
    · obtain ⟨hj0, rfl⟩ := hgo
      obtain ⟨j, rfl⟩ : ∃ i, j = i + 1 := ⟨j - 1, by omega⟩
      have hp : decide ((0 : Int) < ((j + 1 : Nat) : Int)) = true := by simp
      go_upto_region 9 with fail
      go_quiet (fail)
      go_wp2_with fail
      go_roundw
      case rel => exact ⟨j, by omega, by go_num, by show _ = _; rw [HEX.out, HEY.out, HD.out], _, rfl⟩
      case measure => simp [intOf] <;> omega
    · by_cases hj0 : 0 < j
      · have hne : a ≠ b := fun e => hgo ⟨hj0, e⟩
        obtain ⟨j, rfl⟩ : ∃ i, j = i + 1 := ⟨j - 1, by omega⟩
        have hp : decide ((0 : Int) < ((j + 1 : Nat) : Int)) = true := by simp
        have hab : ((a : Int) == b) = false := by rw [beq_eq_false_iff_ne]; exact hne
        rcases Int.lt_or_gt_of_ne hne with hlt | hgt
        · have hd : decide (a < b) = true := by simpa using hlt
          go_upto_region 9 with fail
          go_quiet (fail)
          go_upto_region 11 with fail
          go_quiet (fail)
          go_wp2_with fail
          go_ret
          exact ⟨_, rfl, .inl ⟨rfl, HA.out hlt⟩, by (try simp only [World.drewN_drewN]); exact ⟨_, rfl⟩⟩
        · have hd : decide (a < b) = false := by simp; omega
          have hd2 : decide (b < a) = true := by simpa using hgt
          go_upto_region 9 with fail
          go_quiet (fail)
          go_upto_region 11 with fail
          go_quiet (fail)
          go_upto_region 13 with fail
          go_quiet (fail)
          go_wp2_with fail
          go_ret
          exact ⟨_, rfl, .inr (.inr ⟨rfl, HB.out hgt⟩), by (try simp only [World.drewN_drewN]); exact ⟨_, rfl⟩⟩
      · obtain rfl : j = 0 := by omega
        have HEQ : a = b → val xs = val ys := fun e => by
          have e1 := HEX.out
          rw [e, HD.out, ← HEY.out, List.drop_zero, List.drop_zero] at e1
          rw [e1]
        rcases Int.lt_trichotomy a b with hlt | rfl | hgt
        · clear HEQ
          have hd : decide (a < b) = true := by simpa using hlt
          go_upto_region 9 with fail
          go_quiet (fail)
          go_upto_region 11 with fail
          go_quiet (fail)
          go_wp2_with fail
          go_ret
          exact ⟨_, rfl, .inl ⟨rfl, HA.out hlt⟩, by (try simp only [World.drewN_drewN]); exact ⟨_, rfl⟩⟩
        · have HV := Lib.hid (HEQ rfl)
          clear HEQ
          have hd : decide (a < a) = false := by simp
          go_upto_region 9 with fail
          go_quiet (fail)
          go_upto_region 11 with fail
          go_quiet (fail)
          go_upto_region 13 with fail
          go_quiet (fail)
          go_wp2_with fail
          go_ret
          exact ⟨_, rfl, .inr (.inl ⟨rfl, HV.out⟩), by (try simp only [World.drewN_drewN]); exact ⟨_, rfl⟩⟩
        · clear HEQ
          have hd : decide (a < b) = false := by simp; omega
          have hd2 : decide (b < a) = true := by simpa using hgt
          go_upto_region 9 with fail
          go_quiet (fail)
          go_upto_region 11 with fail
          go_quiet (fail)
          go_upto_region 13 with fail
          go_quiet (fail)
          go_wp2_with fail
          go_ret
          exact ⟨_, rfl, .inr (.inr ⟨rfl, HB.out hgt⟩), by (try simp only [World.drewN_drewN]); exact ⟨_, rfl⟩⟩
set_option maxRecDepth 100000 in
set_option maxHeartbeats 4000000 in
theorem cmp_any (xb xc yb yc : Nat) (xs ys : List Int) (w : World) (hx : Words xs) (hy : Words ys) (hnx : nrm xs = xs) (hny : nrm ys = ys) (hlx : xs.length ≤ 1048576) (hly : ys.length ≤ 1048576) (hRx : Reads w xb 0 xs) (hRy : Reads w yb 0 ys) :
    Calls Tryz.prog 194 #[.slice (some ⟨xb, 0, none⟩) xs.length xc, .slice (some ⟨yb, 0, none⟩) ys.length yc] w fun e w' => ∃ r, e = .returned (.int .i64 r) ∧ CmpR r (val xs) (val ys) ∧ ∃ n, w' = w.drewN n := by
  have HX := Lib.hid hx; have HY := Lib.hid hy; have HRX := Lib.hid hRx; have HRY := Lib.hid hRy
  rcases Nat.lt_trichotomy xs.length ys.length with hl | hl | hl
  · have HV := Lib.hid (val_shorter hx hy hny hl)
    have h1 : ((xs.length : Int) == (ys.length : Int)) = false := by rw [beq_eq_false_iff_ne]; omega
    have h2 : decide ((xs.length : Int) < (ys.length : Int)) = true := by simp; omega
    clear hx hy hnx hny hRx hRy
    go_enter Tryz.func194, Tryz.ntmps194
    go_wp2_with fail
    go_ret
    exact ⟨_, rfl, .inl ⟨rfl, HV.out⟩, 0, rfl⟩
  · by_cases h0 : xs.length = 0
    · have ex : xs = [] := List.eq_nil_of_length_eq_zero h0
      have ey : ys = [] := List.eq_nil_of_length_eq_zero (by omega)
      subst ex
      subst ey
      clear hx hy hnx hny hRx hRy
      go_enter Tryz.func194, Tryz.ntmps194
      go_wp2_with fail
      go_ret
      exact ⟨_, rfl, .inr (.inl ⟨rfl, rfl⟩), 0, rfl⟩
    · rw [← hl]
      exact cmp_eq xb xc yb yc xs.length xs ys w hx hy rfl hl.symm (by omega) hlx hRx hRy
  · have HV := Lib.hid (val_shorter hy hx hnx hl)
    have h1 : ((xs.length : Int) == (ys.length : Int)) = false := by rw [beq_eq_false_iff_ne]; omega
    have h2 : decide ((xs.length : Int) < (ys.length : Int)) = false := by simp; omega
    clear hx hy hnx hny hRx hRy
    go_enter Tryz.func194, Tryz.ntmps194
    go_wp2_with fail
    go_ret
    exact ⟨_, rfl, .inr (.inr ⟨rfl, HV.out⟩), 0, rfl⟩
end Go.Proofs.YtoofphhfealcaaaGreatDoor
