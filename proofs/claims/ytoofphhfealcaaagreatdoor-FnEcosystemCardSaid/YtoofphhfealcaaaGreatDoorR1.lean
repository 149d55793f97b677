/-
  WALKS: vectors of words: addVV, subVV, addMulVVWW.
-/
import Derived.Test.YtoofphhfealcaaaGreatDoorQ3
import Derived.Deep.RegionWith
import Derived.Deep.CutRange
namespace Go.Proofs.YtoofphhfealcaaaGreatDoor
open Go.RowKit

theorem drewN_setCell (w : World) (n : Nat) (x : Addr) (v : Value) : (w.drewN n).setCell x v = (w.setCell x v).drewN n := rfl
theorem drewN_drewN (w : World) (n m : Nat) : ∃ k, (w.drewN n).drewN m = w.drewN k := ⟨_, by first | exact World.drewN_drewN _ _ _ | rfl⟩
theorem bits_AddS (x y c : Int) (w : World) (hx : 0 ≤ x) (hy : 0 ≤ y) (hc0 : 0 ≤ c) (hc : c ≤ 1) : Calls Tryz.prog 242 #[.int .u64 x, .int .u64 y, .int .u64 c] w fun e w' => e = .returned (.tuple #[.int .u64 (aLo x y c), .int .u64 (aHi x y c)]) ∧ w' = w :=
  (bits_Add x y c w hx hy hc0 hc).mono fun _ _ h => ⟨h.1, h.2.symm⟩
theorem bits_SubS (x y c : Int) (w : World) (hx : 0 ≤ x) (hy : 0 ≤ y) (hy1 : y < BW) (hc0 : 0 ≤ c) (hc : c ≤ 1) : Calls Tryz.prog 275 #[.int .u64 x, .int .u64 y, .int .u64 c] w fun e w' => e = .returned (.tuple #[.int .u64 (sLo x y c), .int .u64 (sHi x y c)]) ∧ w' = w :=
  (bits_Sub x y c w hx hy hy1 hc0 hc).mono fun _ _ h => ⟨h.1, h.2.symm⟩
theorem mulAddS (x y c : Int) (w : World) (hx0 : 0 ≤ x) (hx : x < BW) (hy0 : 0 ≤ y) (hy : y < BW) (hc0 : 0 ≤ c) (hc : c < BW) : Calls Tryz.prog 214 #[.int .u64 x, .int .u64 y, .int .u64 c] w fun e w' => e = .returned (.tuple #[.int .u64 (mHi x y c), .int .u64 (mLo x y c)]) ∧ w' = w :=
  (mulAddWWW_any x y c w hx0 hx hy0 hy hc0 hc).mono fun _ _ h => ⟨h.1, h.2.symm⟩
theorem words_takeR {l : List Int} (h : Words l) (k : Nat) : Words (l.take k) := fun z hz => h z (List.mem_of_mem_take hz)
set_option maxRecDepth 100000 in
set_option maxHeartbeats 4000000 in
theorem addVV_g_any (zb zo zc xb xo xc yb yo yc n : Nat) (xs ys : List Int) (w : World) (hxl : xs.length = n) (hyl : ys.length = n) (hx : Words xs) (hy : Words ys) (hn : n ≤ 1099511627776)
    (hR : Reads w xb xo xs) (hRy : Reads w yb yo ys) (hZ : Room w zb zo n) (hC : Clear zb zo xb xo n) (hCy : Clear zb zo yb yo n) :
    Calls Tryz.prog 269 #[.slice (some ⟨zb, zo, none⟩) n zc, .slice (some ⟨xb, xo, none⟩) n xc, .slice (some ⟨yb, yo, none⟩) n yc] w fun e w' =>
      e = .returned (.int .u64 (avC xs ys 0)) ∧ ∃ q, w' = (w.setCells zb zo (wv (avL xs ys 0))).drewN q := by
  have HX := Lib.hid hx; have HY := Lib.hid hy; have HR := Lib.hid hR; have HRY := Lib.hid hRy; have HZ := Lib.hid hZ; have HC := Lib.hid hC; have HCY := Lib.hid hCy
  have HXL := Lib.hid hxl; have HYL := Lib.hid hyl
  clear hx hy hR hRy hZ hC hCy hxl hyl
  go_enter Tryz.func269, Tryz.ntmps269
  go_wp2
  go_loopw [6, 25] (fun c i wr => ∃ k : Nat, k ≤ n ∧ i = .int .i64 k ∧ c = .int .u64 (avC (xs.take k) (ys.take k) 0) ∧ ∃ q, wr = (w.setCells zb zo (wv (avL (xs.take k) (ys.take k) 0))).drewN q) (fun _ i _ => n - (intOf i).toNat)
  case atStart => exact ⟨0, by omega, rfl, by simp [avC], 0, by simp [avL, wv, World.setCells]; try rfl⟩
  case round =>
    obtain ⟨k, hk, rfl, rfl, q, hw⟩ := hrel
    have HW := Lib.hid hw
    clear hw
    have hxt : (xs.take k).length = k := by rw [List.length_take, HXL.out]; omega
    have hyt : (ys.take k).length = k := by rw [List.length_take, HYL.out]; omega
    have hl : (avL (xs.take k) (ys.take k) 0).length = k := by rw [avL_len _ _ _ (by rw [hxt, hyt]), hxt]
    have hcr := avC_rng (xs.take k) (ys.take k) 0 (words_takeR HX.out k) (words_takeR HY.out k) (by omega) (by omega)
    by_cases hlt : k < n
    · have hkx : k < xs.length := by rw [HXL.out]; exact hlt
      have hky : k < ys.length := by rw [HYL.out]; exact hlt
      have hxk : wr.cell? ⟨xb, xo + k, none⟩ = some (.int .u64 xs[k]) := by
        rw [HW.out]
        exact reads_setCells (w := w) HR.out _ hkx (by have := HC.out; unfold Clear at this; rw [wv_len]; omega)
      have hyk : wr.cell? ⟨yb, yo + k, none⟩ = some (.int .u64 ys[k]) := by
        rw [HW.out]
        exact reads_setCells (w := w) HRY.out _ hky (by have := HCY.out; unfold Clear at this; rw [wv_len]; omega)
      obtain ⟨u, hzk⟩ : ∃ u, wr.cell? ⟨zb, zo + k, none⟩ = some u := by
        rw [HW.out]
        exact room_cell (w := w) HZ.out _ hlt (by rw [wv_len]; omega)
      have hzf : wr.frozen? ⟨zb, zo + k, none⟩ = false := by rw [HW.out]; exact (World.frozen?_setCells _ _ _ _ _).trans (HZ.out k hlt).2
      have hxr := HX.out xs[k] (List.getElem_mem hkx)
      have hyr := HY.out ys[k] (List.getElem_mem hky)
      have HT := Lib.hid (show xs.take (k + 1) = xs.take k ++ [xs[k]] by rw [List.take_succ_eq_append_getElem hkx])
      have HTY := Lib.hid (show ys.take (k + 1) = ys.take k ++ [ys[k]] by rw [List.take_succ_eq_append_getElem hky])
      have HL := Lib.hid hl
      have HLL := Lib.hid (hxt.trans hyt.symm)
      generalize xs[k] = a at hxk hxr HT
      generalize ys[k] = b at hyk hyr HTY
      clear hl hxt hyt
      generalize hmc : avC (xs.take k) (ys.take k) 0 = mc at *
      have HM := Lib.hid hmc
      clear hmc hkx hky
      have HADD := Lib.hid (fun W => bits_AddS a b mc W hxr.1 hyr.1 hcr.1 hcr.2)
      go_upto_region 6 with fail
      go_quiet (first | (go_at_call 242; refine Calls.quiet_of_same (HADD.out _)))
      go_wp2_with fail
      go_roundw
      case rel => exact ⟨k + 1, by omega, by go_num, by rw [HT.out, HTY.out, avC_snoc _ _ _ _ _ HLL.out, HM.out], q + nq, by rw [HT.out, HTY.out, avL_snoc _ _ _ _ _ HLL.out, HM.out, HW.out, World.drewN_drewN, drewN_setCell, setCells_wv HL.out]⟩
      case measure => simp [intOf]; omega
    · have hke : k = n := by omega
      have HK : Hid (xs.take k = xs ∧ ys.take k = ys) := by
        rw [hke]
        exact ⟨by rw [← HXL.out]; exact List.take_length, by rw [← HYL.out]; exact List.take_length⟩
      have hlt' : decide (k < n) = false := by simpa using hlt
      clear hke
      go_wp2_with fail
      go_ret
      exact ⟨by rw [HK.out.1, HK.out.2]; rfl, q, by rw [HW.out, HK.out.1, HK.out.2]⟩
set_option maxRecDepth 100000 in
set_option maxHeartbeats 4000000 in
theorem subVV_g_any (zb zo zc xb xo xc yb yo yc n : Nat) (xs ys : List Int) (w : World) (hxl : xs.length = n) (hyl : ys.length = n) (hx : Words xs) (hy : Words ys) (hn : n ≤ 1099511627776)
    (hR : Reads w xb xo xs) (hRy : Reads w yb yo ys) (hZ : Room w zb zo n) (hC : Clear zb zo xb xo n) (hCy : Clear zb zo yb yo n) :
    Calls Tryz.prog 283 #[.slice (some ⟨zb, zo, none⟩) n zc, .slice (some ⟨xb, xo, none⟩) n xc, .slice (some ⟨yb, yo, none⟩) n yc] w fun e w' =>
      e = .returned (.int .u64 (svC xs ys 0)) ∧ ∃ q, w' = (w.setCells zb zo (wv (svL xs ys 0))).drewN q := by
  have HX := Lib.hid hx; have HY := Lib.hid hy; have HR := Lib.hid hR; have HRY := Lib.hid hRy; have HZ := Lib.hid hZ; have HC := Lib.hid hC; have HCY := Lib.hid hCy
  have HXL := Lib.hid hxl; have HYL := Lib.hid hyl
  clear hx hy hR hRy hZ hC hCy hxl hyl
  go_enter Tryz.func283, Tryz.ntmps283
  go_wp2
  go_loopw [6, 25] (fun c i wr => ∃ k : Nat, k ≤ n ∧ i = .int .i64 k ∧ c = .int .u64 (svC (xs.take k) (ys.take k) 0) ∧ ∃ q, wr = (w.setCells zb zo (wv (svL (xs.take k) (ys.take k) 0))).drewN q) (fun _ i _ => n - (intOf i).toNat)
  case atStart => exact ⟨0, by omega, rfl, by simp [svC], 0, by simp [svL, wv, World.setCells]; try rfl⟩
  case round =>
    obtain ⟨k, hk, rfl, rfl, q, hw⟩ := hrel
    have HW := Lib.hid hw
    clear hw
    have hxt : (xs.take k).length = k := by rw [List.length_take, HXL.out]; omega
    have hyt : (ys.take k).length = k := by rw [List.length_take, HYL.out]; omega
    have hl : (svL (xs.take k) (ys.take k) 0).length = k := by rw [svL_len _ _ _ (by rw [hxt, hyt]), hxt]
    have hcr := svC_rng (xs.take k) (ys.take k) 0 (by omega) (by omega)
    by_cases hlt : k < n
    · have hkx : k < xs.length := by rw [HXL.out]; exact hlt
      have hky : k < ys.length := by rw [HYL.out]; exact hlt
      have hxk : wr.cell? ⟨xb, xo + k, none⟩ = some (.int .u64 xs[k]) := by
        rw [HW.out]
        exact reads_setCells (w := w) HR.out _ hkx (by have := HC.out; unfold Clear at this; rw [wv_len]; omega)
      have hyk : wr.cell? ⟨yb, yo + k, none⟩ = some (.int .u64 ys[k]) := by
        rw [HW.out]
        exact reads_setCells (w := w) HRY.out _ hky (by have := HCY.out; unfold Clear at this; rw [wv_len]; omega)
      obtain ⟨u, hzk⟩ : ∃ u, wr.cell? ⟨zb, zo + k, none⟩ = some u := by
        rw [HW.out]
        exact room_cell (w := w) HZ.out _ hlt (by rw [wv_len]; omega)
      have hzf : wr.frozen? ⟨zb, zo + k, none⟩ = false := by rw [HW.out]; exact (World.frozen?_setCells _ _ _ _ _).trans (HZ.out k hlt).2
      have hxr := HX.out xs[k] (List.getElem_mem hkx)
      have hyr := HY.out ys[k] (List.getElem_mem hky)
      have HT := Lib.hid (show xs.take (k + 1) = xs.take k ++ [xs[k]] by rw [List.take_succ_eq_append_getElem hkx])
      have HTY := Lib.hid (show ys.take (k + 1) = ys.take k ++ [ys[k]] by rw [List.take_succ_eq_append_getElem hky])
      have HL := Lib.hid hl
      have HLL := Lib.hid (hxt.trans hyt.symm)
      generalize xs[k] = a at hxk hxr HT
      generalize ys[k] = b at hyk hyr HTY
      clear hl hxt hyt
      generalize hmc : svC (xs.take k) (ys.take k) 0 = mc at *
      have HM := Lib.hid hmc
      clear hmc hkx hky
      have HADD := Lib.hid (fun W => bits_SubS a b mc W hxr.1 hyr.1 hyr.2 hcr.1 hcr.2)
      go_upto_region 6 with fail
      go_quiet (first | (go_at_call 275; refine Calls.quiet_of_same (HADD.out _)))
      go_wp2_with fail
      go_roundw
      case rel => exact ⟨k + 1, by omega, by go_num, by rw [HT.out, HTY.out, svC_snoc _ _ _ _ _ HLL.out, HM.out], q + nq, by rw [HT.out, HTY.out, svL_snoc _ _ _ _ _ HLL.out, HM.out, HW.out, World.drewN_drewN, drewN_setCell, setCells_wv HL.out]⟩
      case measure => simp [intOf]; omega
    · have hke : k = n := by omega
      have HK : Hid (xs.take k = xs ∧ ys.take k = ys) := by
        rw [hke]
        exact ⟨by rw [← HXL.out]; exact List.take_length, by rw [← HYL.out]; exact List.take_length⟩
      have hlt' : decide (k < n) = false := by simpa using hlt
      clear hke
      go_wp2_with fail
      go_ret
      exact ⟨by rw [HK.out.1, HK.out.2]; rfl, q, by rw [HW.out, HK.out.1, HK.out.2]⟩
set_option maxRecDepth 100000 in
set_option maxHeartbeats 4000000 in
theorem addMulVVWW_g_any (zb zo zc xb xo xc yb yo yc n : Nat) (xs ys : List Int) (m : Int) (w : World) (hm0 : 0 ≤ m) (hm : m < BW) (hxl : xs.length = n) (hyl : ys.length = n) (hx : Words xs) (hy : Words ys) (hn : n ≤ 1099511627776)
    (hR : Reads w xb xo xs) (hRy : Reads w yb yo ys) (hZ : Room w zb zo n) (hC : Clear zb zo xb xo n) (hCy : Clear zb zo yb yo n) :
    Calls Tryz.prog 263 #[.slice (some ⟨zb, zo, none⟩) n zc, .slice (some ⟨xb, xo, none⟩) n xc, .slice (some ⟨yb, yo, none⟩) n yc, .int .u64 m, .int .u64 0] w fun e w' =>
      e = .returned (.int .u64 (amC xs ys m 0)) ∧ ∃ q, w' = (w.setCells zb zo (wv (amL xs ys m 0))).drewN q := by
  have HX := Lib.hid hx; have HY := Lib.hid hy; have HR := Lib.hid hR; have HRY := Lib.hid hRy; have HZ := Lib.hid hZ; have HC := Lib.hid hC; have HCY := Lib.hid hCy
  have HXL := Lib.hid hxl; have HYL := Lib.hid hyl
  clear hx hy hR hRy hZ hC hCy hxl hyl
  go_enter Tryz.func263, Tryz.ntmps263
  go_wp2
  go_loopw [10, 32] (fun c i wr => ∃ k : Nat, k ≤ n ∧ i = .int .i64 k ∧ c = .int .u64 (amC (xs.take k) (ys.take k) m 0) ∧ ∃ q, wr = (w.setCells zb zo (wv (amL (xs.take k) (ys.take k) m 0))).drewN q) (fun _ i _ => n - (intOf i).toNat)
  case atStart => exact ⟨0, by omega, rfl, by simp [amC], 0, by simp [amL, wv, World.setCells]; try rfl⟩
  case round =>
    obtain ⟨k, hk, rfl, rfl, q, hw⟩ := hrel
    have HW := Lib.hid hw
    clear hw
    have hxt : (xs.take k).length = k := by rw [List.length_take, HXL.out]; omega
    have hyt : (ys.take k).length = k := by rw [List.length_take, HYL.out]; omega
    have hl : (amL (xs.take k) (ys.take k) m 0).length = k := by rw [amL_len _ _ _ _ (by rw [hxt, hyt]), hxt]
    have hcr := amC_rng (xs.take k) (ys.take k) m 0 (words_takeR HX.out k) (words_takeR HY.out k) hm0 hm (by omega) (by unfold BW; omega)
    by_cases hlt : k < n
    · have hkx : k < xs.length := by rw [HXL.out]; exact hlt
      have hky : k < ys.length := by rw [HYL.out]; exact hlt
      have hxk : wr.cell? ⟨xb, xo + k, none⟩ = some (.int .u64 xs[k]) := by
        rw [HW.out]
        exact reads_setCells (w := w) HR.out _ hkx (by have := HC.out; unfold Clear at this; rw [wv_len]; omega)
      have hyk : wr.cell? ⟨yb, yo + k, none⟩ = some (.int .u64 ys[k]) := by
        rw [HW.out]
        exact reads_setCells (w := w) HRY.out _ hky (by have := HCY.out; unfold Clear at this; rw [wv_len]; omega)
      obtain ⟨u, hzk⟩ : ∃ u, wr.cell? ⟨zb, zo + k, none⟩ = some u := by
        rw [HW.out]
        exact room_cell (w := w) HZ.out _ hlt (by rw [wv_len]; omega)
      have hzf : wr.frozen? ⟨zb, zo + k, none⟩ = false := by rw [HW.out]; exact (World.frozen?_setCells _ _ _ _ _).trans (HZ.out k hlt).2
      have hxr := HX.out xs[k] (List.getElem_mem hkx)
      have hyr := HY.out ys[k] (List.getElem_mem hky)
      have HT := Lib.hid (show xs.take (k + 1) = xs.take k ++ [xs[k]] by rw [List.take_succ_eq_append_getElem hkx])
      have HTY := Lib.hid (show ys.take (k + 1) = ys.take k ++ [ys[k]] by rw [List.take_succ_eq_append_getElem hky])
      have HL := Lib.hid hl
      have HLL := Lib.hid (hxt.trans hyt.symm)
      generalize xs[k] = a at hxk hxr HT
      generalize ys[k] = b at hyk hyr HTY
      clear hl hxt hyt
      generalize hmc : amC (xs.take k) (ys.take k) m 0 = mc at *
      have HM := Lib.hid hmc
      clear hmc hkx hky
      have HST := Lib.hid (amStep b m a mc hyr.1 hyr.2 hm0 hm hxr.1 hxr.2 hcr.1 hcr.2)
      have HADD := Lib.hid (fun W => mulAddS b m a W hyr.1 hyr.2 hm0 hm hxr.1 hxr.2)
      go_upto_region 7 with fail
      go_quiet (first | (go_at_call 214; refine Calls.quiet_of_same (HADD.out _)))
      go_wp2_with (go_at_call 242; refine (bits_Add _ _ _ _ (mLo_rng _ _ _).1 hcr.1 (by omega) (by omega)).mono ?_; rintro e w1 ⟨rfl, rfl⟩; rw [HST.out.1])
      go_roundw
      case rel => exact ⟨k + 1, by omega, by go_num, by rw [HT.out, HTY.out, amC_snoc _ _ _ _ _ _ HLL.out, HM.out, ← HST.out.2], q + nq, by rw [HT.out, HTY.out, amL_snoc _ _ _ _ _ _ HLL.out, HM.out, HW.out, World.drewN_drewN, drewN_setCell, setCells_wv HL.out]⟩
      case measure => simp [intOf]; omega
    · have hke : k = n := by omega
      have HK : Hid (xs.take k = xs ∧ ys.take k = ys) := by
        rw [hke]
        exact ⟨by rw [← HXL.out]; exact List.take_length, by rw [← HYL.out]; exact List.take_length⟩
      have hlt' : decide (k < n) = false := by simpa using hlt
      clear hke
      go_wp2_with fail
      go_ret
      exact ⟨by rw [HK.out.1, HK.out.2]; rfl, q, by rw [HW.out, HK.out.1, HK.out.2]⟩
theorem addVV_any (zb zo zc xb xo xc yb yo yc n : Nat) (xs ys : List Int) (w : World) (hxl : xs.length = n) (hyl : ys.length = n) (hx : Words xs) (hy : Words ys) (hn : n ≤ 1099511627776)
    (hR : Reads w xb xo xs) (hRy : Reads w yb yo ys) (hZ : Room w zb zo n) (hC : Clear zb zo xb xo n) (hCy : Clear zb zo yb yo n) :
    Calls Tryz.prog 233 #[.slice (some ⟨zb, zo, none⟩) n zc, .slice (some ⟨xb, xo, none⟩) n xc, .slice (some ⟨yb, yo, none⟩) n yc] w fun e w' =>
      e = .returned (.int .u64 (avC xs ys 0)) ∧ ∃ q, w' = (w.setCells zb zo (wv (avL xs ys 0))).drewN q := by
  go_enter Tryz.func233, Tryz.ntmps233
  go_wp2_with (go_at_call 269; refine (addVV_g_any zb zo zc xb xo xc yb yo yc n xs ys _ hxl hyl hx hy hn hR hRy hZ hC hCy).mono ?_; rintro e w' ⟨rfl, q, rfl⟩)
  go_ret
  exact ⟨rfl, _, rfl⟩
theorem subVV_any (zb zo zc xb xo xc yb yo yc n : Nat) (xs ys : List Int) (w : World) (hxl : xs.length = n) (hyl : ys.length = n) (hx : Words xs) (hy : Words ys) (hn : n ≤ 1099511627776)
    (hR : Reads w xb xo xs) (hRy : Reads w yb yo ys) (hZ : Room w zb zo n) (hC : Clear zb zo xb xo n) (hCy : Clear zb zo yb yo n) :
    Calls Tryz.prog 272 #[.slice (some ⟨zb, zo, none⟩) n zc, .slice (some ⟨xb, xo, none⟩) n xc, .slice (some ⟨yb, yo, none⟩) n yc] w fun e w' =>
      e = .returned (.int .u64 (svC xs ys 0)) ∧ ∃ q, w' = (w.setCells zb zo (wv (svL xs ys 0))).drewN q := by
  go_enter Tryz.func272, Tryz.ntmps272
  go_wp2_with (go_at_call 283; refine (subVV_g_any zb zo zc xb xo xc yb yo yc n xs ys _ hxl hyl hx hy hn hR hRy hZ hC hCy).mono ?_; rintro e w' ⟨rfl, q, rfl⟩)
  go_ret
  exact ⟨rfl, _, rfl⟩
theorem addMulVVWW_any (zb zo zc xb xo xc yb yo yc n : Nat) (xs ys : List Int) (m : Int) (w : World) (hm0 : 0 ≤ m) (hm : m < BW) (hxl : xs.length = n) (hyl : ys.length = n) (hx : Words xs) (hy : Words ys) (hn : n ≤ 1099511627776)
    (hR : Reads w xb xo xs) (hRy : Reads w yb yo ys) (hZ : Room w zb zo n) (hC : Clear zb zo xb xo n) (hCy : Clear zb zo yb yo n) :
    Calls Tryz.prog 228 #[.slice (some ⟨zb, zo, none⟩) n zc, .slice (some ⟨xb, xo, none⟩) n xc, .slice (some ⟨yb, yo, none⟩) n yc, .int .u64 m, .int .u64 0] w fun e w' =>
      e = .returned (.int .u64 (amC xs ys m 0)) ∧ ∃ q, w' = (w.setCells zb zo (wv (amL xs ys m 0))).drewN q := by
  go_enter Tryz.func228, Tryz.ntmps228
  go_wp2_with (go_at_call 263; refine (addMulVVWW_g_any zb zo zc xb xo xc yb yo yc n xs ys m _ hm0 hm hxl hyl hx hy hn hR hRy hZ hC hCy).mono ?_; rintro e w' ⟨rfl, q, rfl⟩)
  go_ret
  exact ⟨rfl, _, rfl⟩
end Go.Proofs.YtoofphhfealcaaaGreatDoor
