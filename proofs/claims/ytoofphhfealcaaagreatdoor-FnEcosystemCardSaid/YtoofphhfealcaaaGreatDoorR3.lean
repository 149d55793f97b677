/-
  WALKS: shifts of vectors of words by one bit.
-/
import Derived.Test.YtoofphhfealcaaaGreatDoorR2
import Derived.Deep.RegionWith
import Derived.Deep.CutRange
namespace Go.Proofs.YtoofphhfealcaaaGreatDoor
open Go.RowKit

theorem lsh_word {xs : List Int} (hx : Words xs) {k : Nat} (hk : k + 1 < xs.length) (hm : k + 1 < (mvL xs 2 0).length) : bits .or .u64 (IntKind.u64.wrap (xs[k + 1] * 2)) (xs[k] / 9223372036854775808) = (mvL xs 2 0)[k + 1] := by
  rw [mvL_get xs 2 0 (k + 1) hk hm, mvC_two xs hx k (by omega)]
  have h1 := hx xs[k + 1] (List.getElem_mem _)
  have h2 := hx xs[k] (List.getElem_mem _)
  generalize xs[k + 1] = a at *
  generalize xs[k] = b at *
  unfold BW at h1 h2
  rw [IntKind.wrap_u64, or_low _ _ (by omega) (by unfold BW; omega) (by omega) (by omega)]
  unfold mLo BW
  omega
theorem lsh_cell {w wr : World} {xb xo zb zo k j : Nat} {xs l : List Int} (h : Reads w xb xo xs) (hS : Seg w wr zb (zo + (k + 1)) l) (hC : xb ≠ zb ∨ xo ≤ zo) (hj : j < xs.length) (hjk : j ≤ k) : wr.cell? ⟨xb, xo + j, none⟩ = some (.int .u64 xs[j]) := by
  have := h j hj
  rw [hS.out ⟨xb, xo + j, none⟩ (World.block_lt_of_cell? w ⟨xb, xo + j, none⟩ this) (fun e _ => by
    have : xb = zb := e
    show xo + j < zo + (k + 1) ∨ _
    omega)]
  exact this
theorem seg_cell {w wr : World} {zb zo o n j : Nat} {l : List Int} (h : Room w zb zo n) (hS : Seg w wr zb o l) (hj : j < n) : ∃ u, wr.cell? ⟨zb, zo + j, none⟩ = some u := by
  by_cases hin : o ≤ zo + j ∧ zo + j < o + l.length
  · have := hS.rds (zo + j - o) (by omega)
    rw [show o + (zo + j - o) = zo + j by omega] at this
    exact ⟨_, this⟩
  · obtain ⟨⟨u, hu⟩, _⟩ := h j hj
    refine ⟨u, ?_⟩
    rw [hS.out ⟨zb, zo + j, none⟩ (World.block_lt_of_cell? w ⟨zb, zo + j, none⟩ hu) (fun _ _ => by show zo + j < o ∨ _ ≤ zo + j; omega)]
    exact hu
set_option maxRecDepth 100000 in
set_option maxHeartbeats 4000000 in
theorem lshVU_g_one (zb zo zc xb xo xc n : Nat) (xs : List Int) (w : World) (hxl : xs.length = n) (h0 : 0 < n) (hx : Words xs) (hn : n ≤ 1099511627776)
    (hR : Reads w xb xo xs) (hZ : Room w zb zo n) (hC : xb ≠ zb ∨ xo ≤ zo) :
    Calls Tryz.prog 268 #[.slice (some ⟨zb, zo, none⟩) n zc, .slice (some ⟨xb, xo, none⟩) n xc, .int .u64 1] w fun e w' =>
      e = .returned (.int .u64 (mvC xs 2 0)) ∧ Seg w w' zb zo (mvL xs 2 0) := by
  have HX := Lib.hid hx; have HR := Lib.hid hR; have HZ := Lib.hid hZ; have HC := Lib.hid hC; have HXL := Lib.hid hxl
  have hlast : n - 1 < xs.length := by omega
  have hcl : w.cell? ⟨xb, xo + (n - 1), none⟩ = some (.int .u64 xs[n - 1]) := hR (n - 1) hlast
  have HE := Lib.hid (show xs[n - 1] / 9223372036854775808 = mvC xs 2 0 by rw [← mvC_two xs hx (n - 1) hlast]; congr 1; rw [List.take_of_length_le (by omega)])
  generalize xs[n - 1] = xl at *
  have hn0 : ((n : Int) == 0) = false := by rw [beq_eq_false_iff_ne]; omega
  have hb1 : bits .and .u64 1 63 = 1 := by kernel_rfl
  have hb2 : IntKind.u64.wrap (64 - 1) = 63 := by kernel_rfl
  have hb3 : bits .and .u64 63 63 = 63 := by kernel_rfl
  clear hx hR hZ hC hxl hlast
  go_enter Tryz.func268, Tryz.ntmps268
  go_wp2_with fail
  go_loopw [8] (fun i wr => ∃ k : Nat, k < n ∧ i = .int .i64 k ∧ Seg w wr zb (zo + (k + 1)) ((mvL xs 2 0).drop (k + 1))) (fun i _ => (intOf i).toNat)
  case atStart =>
    refine ⟨n - 1, by omega, by congr 1; omega, ?_⟩
    rw [show n - 1 + 1 = n by omega, List.drop_of_length_le (by rw [mvL_len, HXL.out]; omega)]
    exact seg_nil w zb (zo + n)
  case round =>
    obtain ⟨k, hk, rfl, hS⟩ := hrel
    have HS := Lib.hid hS
    clear hS
    by_cases h0k : 0 < k
    · obtain ⟨k, rfl⟩ : ∃ i, k = i + 1 := ⟨k - 1, by omega⟩
      have hpos : decide ((0 : Int) < ((k + 1 : Nat) : Int)) = true := by simp
      have hk1 : k + 1 < xs.length := by rw [HXL.out]; exact hk
      have hk0 : k < xs.length := by omega
      have hc1 : wr.cell? ⟨xb, xo + (k + 1), none⟩ = some (.int .u64 xs[k + 1]) := lsh_cell HR.out HS.out HC.out hk1 (by omega)
      have hc0 : wr.cell? ⟨xb, xo + k, none⟩ = some (.int .u64 xs[k]) := lsh_cell HR.out HS.out HC.out hk0 (by omega)
      obtain ⟨u, hz⟩ : ∃ u, wr.cell? ⟨zb, zo + (k + 1), none⟩ = some u := seg_cell HZ.out HS.out hk
      have hzf : wr.frozen? ⟨zb, zo + (k + 1), none⟩ = false := by rw [HS.out.frz]; exact (HZ.out _ hk).2
      have hml : k + 1 < (mvL xs 2 0).length := by rw [mvL_len]; exact hk1
      have hval : bits .or .u64 (IntKind.u64.wrap (xs[k + 1] * 2)) (xs[k] / 9223372036854775808) = (mvL xs 2 0)[k + 1] := lsh_word HX.out hk1 hml
      have hdr : (mvL xs 2 0).drop (k + 1) = (mvL xs 2 0)[k + 1] :: (mvL xs 2 0).drop (k + 1 + 1) := List.drop_eq_getElem_cons hml
      have HV := Lib.hid hval
      have HD := Lib.hid hdr
      have HZS := Lib.hid (room_some HZ.out (k := zo + (k + 1)) (by omega))
      clear hval hdr
      generalize (mvL xs 2 0)[k + 1] = vv at *
      generalize xs[k + 1] = a at *
      generalize xs[k] = b at *
      go_upto_region 13 with fail
      go_region
      go_wp2_with fail
      go_roundw
      case rel =>
        refine ⟨k, by omega, by go_num, ?_⟩
        rw [HD.out, HV.out]
        exact seg_drewN (seg_cons HS.out HZS.out vv) 1
      case measure => simp [intOf] <;> omega
    · obtain rfl : k = 0 := by omega
      have hk0 : 0 < xs.length := by rw [HXL.out]; exact h0
      have hc0 : wr.cell? ⟨xb, xo + 0, none⟩ = some (.int .u64 xs[0]) := lsh_cell HR.out HS.out HC.out hk0 (by omega)
      obtain ⟨u, hz⟩ : ∃ u, wr.cell? ⟨zb, zo + 0, none⟩ = some u := seg_cell HZ.out HS.out h0
      have hzf : wr.frozen? ⟨zb, zo + 0, none⟩ = false := by rw [HS.out.frz]; exact (HZ.out _ h0).2
      have hml : 0 < (mvL xs 2 0).length := by rw [mvL_len]; exact hk0
      have hval : IntKind.u64.wrap (xs[0] * 2) = (mvL xs 2 0)[0] := by
        rw [mvL_get xs 2 0 0 hk0 hml, IntKind.wrap_u64]
        simp [mvC, mLo, BW]
      have hdr : mvL xs 2 0 = (mvL xs 2 0)[0] :: (mvL xs 2 0).drop (0 + 1) := by
        have := List.drop_eq_getElem_cons hml
        rwa [List.drop_zero] at this
      have HV := Lib.hid hval
      have HD := Lib.hid hdr
      have HZS := Lib.hid (room_some HZ.out (k := zo + 0) (by omega))
      clear hval hdr
      generalize (mvL xs 2 0)[0] = vv at *
      generalize xs[0] = a at *
      rw [Nat.add_zero] at hc0 hz hzf HZS
      go_wp2_with fail
      go_ret
      refine ⟨by rw [HE.out]; rfl, ?_⟩
      rw [HD.out, HV.out]
      exact seg_cons HS.out HZS.out vv
theorem lshVU_one (zb zo zc xb xo xc n : Nat) (xs : List Int) (w : World) (hxl : xs.length = n) (h0 : 0 < n) (hx : Words xs) (hn : n ≤ 1099511627776)
    (hR : Reads w xb xo xs) (hZ : Room w zb zo n) (hC : xb ≠ zb ∨ xo ≤ zo) :
    Calls Tryz.prog 232 #[.slice (some ⟨zb, zo, none⟩) n zc, .slice (some ⟨xb, xo, none⟩) n xc, .int .u64 1] w fun e w' =>
      e = .returned (.int .u64 (mvC xs 2 0)) ∧ Seg w w' zb zo (mvL xs 2 0) := by
  go_enter Tryz.func232, Tryz.ntmps232
  go_wp2_with (go_at_call 268; refine (lshVU_g_one zb zo zc xb xo xc n xs _ hxl h0 hx hn hR hZ hC).mono ?_; rintro e w' ⟨rfl, hS⟩; have HS := Lib.hid hS; clear hS)
  go_ret
  exact ⟨rfl, HS.out⟩
theorem hvL_get : ∀ (l : List Int) (j : Nat) (h : j + 1 < l.length) (h2 : j < (hvL l).length), (hvL l)[j] = l[j] / 2 + l[j + 1] % 2 * 9223372036854775808
  | x :: y :: r, 0, _, _ => rfl
  | x :: y :: r, j + 1, h, h2 => by
    have ih := hvL_get (y :: r) j (by simpa using h) (by simpa [hvL] using h2)
    simpa [hvL] using ih
theorem hvL_last : ∀ (l : List Int) (j : Nat) (h : j + 1 = l.length) (h2 : j < (hvL l).length), (hvL l)[j] = l[j] / 2
  | [x], 0, _, _ => rfl
  | x :: y :: r, 0, h, _ => by simp at h
  | x :: y :: r, j + 1, h, h2 => by
    have ih := hvL_last (y :: r) j (by simpa using h) (by simpa [hvL] using h2)
    simpa [hvL] using ih
theorem rsh_word {xs : List Int} (hx : Words xs) {k : Nat} (hk : k + 1 < xs.length) (hm : k < (hvL xs).length) : bits .or .u64 (xs[k] / 2) (IntKind.u64.wrap (xs[k + 1] * 9223372036854775808)) = (hvL xs)[k] := by
  rw [hvL_get xs k hk hm]
  have h1 := hx xs[k + 1] (List.getElem_mem _)
  have h2 := hx xs[k] (List.getElem_mem _)
  generalize xs[k + 1] = a at *
  generalize xs[k] = b at *
  unfold BW at h1 h2
  rw [IntKind.wrap_u64, or_high _ _ (by omega) (by omega) (by omega)]
  omega
theorem rsh_cell {w wr : World} {xb xo zb zo j : Nat} {xs l : List Int} (h : Reads w xb xo xs) (hS : Seg w wr zb zo l) (hC : xb ≠ zb ∨ zo ≤ xo) (hj : j < xs.length) (hjk : l.length ≤ j) : wr.cell? ⟨xb, xo + j, none⟩ = some (.int .u64 xs[j]) := by
  have := h j hj
  rw [hS.out ⟨xb, xo + j, none⟩ (World.block_lt_of_cell? w ⟨xb, xo + j, none⟩ this) (fun e _ => by
    have : xb = zb := e
    show xo + j < zo ∨ zo + l.length ≤ xo + j
    omega)]
  exact this
set_option maxRecDepth 100000 in
set_option maxHeartbeats 4000000 in
theorem rshVU_g_one (zb zo zc xb xo xc n : Nat) (xs : List Int) (w : World) (hxl : xs.length = n) (h0 : 0 < n) (hx : Words xs) (hn : n ≤ 1099511627776)
    (hR : Reads w xb xo xs) (hZ : Room w zb zo n) (hC : xb ≠ zb ∨ zo ≤ xo) :
    Calls Tryz.prog 198 #[.slice (some ⟨zb, zo, none⟩) n zc, .slice (some ⟨xb, xo, none⟩) n xc, .int .u64 1] w fun e w' =>
      (∃ c, e = .returned c) ∧ Seg w w' zb zo (hvL xs) := by
  have HX := Lib.hid hx; have HR := Lib.hid hR; have HZ := Lib.hid hZ; have HC := Lib.hid hC; have HXL := Lib.hid hxl
  have hfirst : 0 < xs.length := by omega
  have hcl : w.cell? ⟨xb, xo + 0, none⟩ = some (.int .u64 xs[0]) := hR 0 hfirst
  rw [Nat.add_zero] at hcl
  generalize xs[0] = xl at *
  have hn0 : ((n : Int) == 0) = false := by rw [beq_eq_false_iff_ne]; omega
  have hb1 : bits .and .u64 1 63 = 1 := by kernel_rfl
  have hb2 : IntKind.u64.wrap (64 - 1) = 63 := by kernel_rfl
  have hb3 : bits .and .u64 63 63 = 63 := by kernel_rfl
  clear hx hR hZ hC hxl hfirst
  go_enter Tryz.func198, Tryz.ntmps198
  go_wp2_with fail
  go_loopw [8] (fun i wr => ∃ k : Nat, k < n ∧ i = .int .i64 ((k + 1 : Nat) : Int) ∧ Seg w wr zb zo ((hvL xs).take k)) (fun i _ => n - (intOf i).toNat)
  case atStart =>
    exact ⟨0, h0, rfl, seg_nil w zb zo⟩
  case round =>
    obtain ⟨k, hk, rfl, hS⟩ := hrel
    have HS := Lib.hid hS
    clear hS
    have hkx : k < xs.length := by rw [HXL.out]; exact hk
    have hml : k < (hvL xs).length := by rw [hvL_len]; exact hkx
    have htl : ((hvL xs).take k).length = k := by rw [List.length_take]; omega
    have hc0 : wr.cell? ⟨xb, xo + k, none⟩ = some (.int .u64 xs[k]) := rsh_cell HR.out HS.out HC.out hkx (by omega)
    obtain ⟨u, hz⟩ : ∃ u, wr.cell? ⟨zb, zo + k, none⟩ = some u := seg_cell HZ.out HS.out hk
    have hzf : wr.frozen? ⟨zb, zo + k, none⟩ = false := by rw [HS.out.frz]; exact (HZ.out _ hk).2
    have HZS := Lib.hid (room_some HZ.out (k := zo + k) (by omega))
    have HTL := Lib.hid (show zo + k = zo + ((hvL xs).take k).length by rw [htl])
    have HT := Lib.hid (show (hvL xs).take (k + 1) = (hvL xs).take k ++ [(hvL xs)[k]] by rw [List.take_succ_eq_append_getElem hml])
    by_cases hk1 : k + 1 < n
    · have hk1x : k + 1 < xs.length := by rw [HXL.out]; exact hk1
      have hc1 : wr.cell? ⟨xb, xo + (k + 1), none⟩ = some (.int .u64 xs[k + 1]) := rsh_cell HR.out HS.out HC.out hk1x (by omega)
      have HV := Lib.hid (rsh_word HX.out hk1x hml)
      generalize (hvL xs)[k] = vv at *
      generalize xs[k + 1] = a at *
      generalize xs[k] = b at *
      clear hml htl hkx hk1x
      go_upto_region 13 with fail
      go_region
      go_wp2_with fail
      go_roundw
      case rel =>
        refine ⟨k + 1, by omega, by go_num, ?_⟩
        rw [HT.out, HV.out]
        exact seg_drewN (seg_snoc HS.out HTL.out HZS.out vv) 1
      case measure => simp [intOf] <;> omega
    · have hkn : n - 1 = k := by omega
      have hxn := HXL.out
      have HV := Lib.hid (hvL_last xs k (by omega) hml)
      have HTT := Lib.hid (show (hvL xs).take (k + 1) = hvL xs from List.take_of_length_le (by rw [hvL_len]; omega))
      generalize (hvL xs)[k] = vv at *
      generalize xs[k] = b at *
      have hlt' : decide (((k + 1 : Nat) : Int) < (n : Int)) = false := by simp; omega
      clear hml htl hkx hxn
      go_wp2_with fail
      go_ret
      refine ⟨⟨_, rfl⟩, ?_⟩
      rw [← HTT.out, HT.out, HV.out]
      exact seg_snoc HS.out HTL.out HZS.out _
theorem rshVU_one (zb zo zc xb xo xc n : Nat) (xs : List Int) (w : World) (hxl : xs.length = n) (h0 : 0 < n) (hx : Words xs) (hn : n ≤ 1099511627776)
    (hR : Reads w xb xo xs) (hZ : Room w zb zo n) (hC : xb ≠ zb ∨ zo ≤ xo) :
    Calls Tryz.prog 175 #[.slice (some ⟨zb, zo, none⟩) n zc, .slice (some ⟨xb, xo, none⟩) n xc, .int .u64 1] w fun e w' =>
      (∃ c, e = .returned c) ∧ Seg w w' zb zo (hvL xs) := by
  go_enter Tryz.func175, Tryz.ntmps175
  go_wp2_with (go_at_call 198; refine (rshVU_g_one zb zo zc xb xo xc n xs _ hxl h0 hx hn hR hZ hC).mono ?_; rintro e w' ⟨⟨c, rfl⟩, hS⟩; have HS := Lib.hid hS; clear hS)
  go_ret
  exact ⟨⟨_, rfl⟩, HS.out⟩
/-- The vector calls, by what they write. -/
theorem addVV_seg (zb zo zc xb xo xc yb yo yc n : Nat) (xs ys : List Int) (w : World) (hxl : xs.length = n) (hyl : ys.length = n) (hx : Words xs) (hy : Words ys) (hn : n ≤ 1099511627776)
    (hR : Reads w xb xo xs) (hRy : Reads w yb yo ys) (hZ : Room w zb zo n) (hC : Clear zb zo xb xo n) (hCy : Clear zb zo yb yo n) :
    Calls Tryz.prog 233 #[.slice (some ⟨zb, zo, none⟩) n zc, .slice (some ⟨xb, xo, none⟩) n xc, .slice (some ⟨yb, yo, none⟩) n yc] w fun e w' =>
      e = .returned (.int .u64 (avC xs ys 0)) ∧ Seg w w' zb zo (avL xs ys 0) :=
  (addVV_any zb zo zc xb xo xc yb yo yc n xs ys w hxl hyl hx hy hn hR hRy hZ hC hCy).mono fun _ _ ⟨h1, q, h2⟩ => ⟨h1, by
    rw [h2]
    exact seg_drewN (seg_of_setCells w zb zo _ (by rw [avL_len _ _ _ (by omega), hxl]; exact hZ)) q⟩
theorem subVV_seg (zb zo zc xb xo xc yb yo yc n : Nat) (xs ys : List Int) (w : World) (hxl : xs.length = n) (hyl : ys.length = n) (hx : Words xs) (hy : Words ys) (hn : n ≤ 1099511627776)
    (hR : Reads w xb xo xs) (hRy : Reads w yb yo ys) (hZ : Room w zb zo n) (hC : Clear zb zo xb xo n) (hCy : Clear zb zo yb yo n) :
    Calls Tryz.prog 272 #[.slice (some ⟨zb, zo, none⟩) n zc, .slice (some ⟨xb, xo, none⟩) n xc, .slice (some ⟨yb, yo, none⟩) n yc] w fun e w' =>
      e = .returned (.int .u64 (svC xs ys 0)) ∧ Seg w w' zb zo (svL xs ys 0) :=
  (subVV_any zb zo zc xb xo xc yb yo yc n xs ys w hxl hyl hx hy hn hR hRy hZ hC hCy).mono fun _ _ ⟨h1, q, h2⟩ => ⟨h1, by
    rw [h2]
    exact seg_drewN (seg_of_setCells w zb zo _ (by rw [svL_len _ _ _ (by omega), hxl]; exact hZ)) q⟩
theorem addMulVVWW_seg (zb zo zc xb xo xc yb yo yc n : Nat) (xs ys : List Int) (m : Int) (w : World) (hm0 : 0 ≤ m) (hm : m < BW) (hxl : xs.length = n) (hyl : ys.length = n) (hx : Words xs) (hy : Words ys) (hn : n ≤ 1099511627776)
    (hR : Reads w xb xo xs) (hRy : Reads w yb yo ys) (hZ : Room w zb zo n) (hC : Clear zb zo xb xo n) (hCy : Clear zb zo yb yo n) :
    Calls Tryz.prog 228 #[.slice (some ⟨zb, zo, none⟩) n zc, .slice (some ⟨xb, xo, none⟩) n xc, .slice (some ⟨yb, yo, none⟩) n yc, .int .u64 m, .int .u64 0] w fun e w' =>
      e = .returned (.int .u64 (amC xs ys m 0)) ∧ Seg w w' zb zo (amL xs ys m 0) :=
  (addMulVVWW_any zb zo zc xb xo xc yb yo yc n xs ys m w hm0 hm hxl hyl hx hy hn hR hRy hZ hC hCy).mono fun _ _ ⟨h1, q, h2⟩ => ⟨h1, by
    rw [h2]
    exact seg_drewN (seg_of_setCells w zb zo _ (by rw [amL_len _ _ _ _ (by omega), hxl]; exact hZ)) q⟩
theorem mulAddVWW_seg (zb zo zc xb xo xc n : Nat) (xs : List Int) (y r : Int) (w : World) (hxl : xs.length = n) (hx : Words xs) (hy0 : 0 ≤ y) (hy : y < BW) (hr0 : 0 ≤ r) (hr : r < BW) (hn : n ≤ 1099511627776)
    (hR : Reads w xb xo xs) (hZ : Room w zb zo n) (hC : Clear zb zo xb xo n) :
    Calls Tryz.prog 172 #[.slice (some ⟨zb, zo, none⟩) n zc, .slice (some ⟨xb, xo, none⟩) n xc, .int .u64 y, .int .u64 r] w fun e w' =>
      e = .returned (.int .u64 (mvC xs y r)) ∧ Seg w w' zb zo (mvL xs y r) := by
  subst hxl
  refine (mulAddVWW_any zb zo zc xb xo xc xs y r w hx hy0 hy hr0 hr hn hR hZ hC).mono ?_
  rintro e w' ⟨h1, rfl⟩
  exact ⟨h1, seg_of_setCells w zb zo _ (by rw [mvL_len]; exact hZ)⟩
end Go.Proofs.YtoofphhfealcaaaGreatDoor
