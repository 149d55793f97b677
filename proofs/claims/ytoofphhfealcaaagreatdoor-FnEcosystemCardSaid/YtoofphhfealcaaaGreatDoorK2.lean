/-
  WALKS: how many bits a number has.
-/
import Derived.Test.YtoofphhfealcaaaGreatDoorC9
import Derived.Test.YtoofphhfealcaaaGreatDoorS
import Derived.Laws.Bits64b
namespace Go.Proofs.YtoofphhfealcaaaGreatDoor
open Go.RowKit

theorem bitLenAux_bounds : ∀ (f x : Nat), x < 2 ^ f → x < 2 ^ Lib.bitLenAux f x ∧ (x ≠ 0 → 2 ^ (Lib.bitLenAux f x - 1) ≤ x ∧ 0 < Lib.bitLenAux f x) ∧ Lib.bitLenAux f x ≤ f
  | 0, x, h => by
    have : x = 0 := by omega
    subst this
    simp [Lib.bitLenAux]
  | f + 1, x, h => by
    unfold Lib.bitLenAux
    by_cases h0 : x = 0
    · simp [h0]
    · rw [if_neg h0]
      have ih := bitLenAux_bounds f (x / 2) (by rw [Nat.pow_succ] at h; omega)
      have e1 : 2 ^ (1 + Lib.bitLenAux f (x / 2)) = 2 * 2 ^ Lib.bitLenAux f (x / 2) := by rw [Nat.pow_add]
      refine ⟨by omega, fun _ => ⟨?_, by omega⟩, by omega⟩
      rw [Nat.add_sub_cancel_left]
      by_cases h1 : x / 2 = 0
      · rw [h1]
        have : Lib.bitLenAux f 0 = 0 := by cases f <;> simp [Lib.bitLenAux]
        rw [this]
        omega
      · obtain ⟨h2, h3⟩ := ih.2.1 h1
        have e2 : 2 ^ Lib.bitLenAux f (x / 2) = 2 * 2 ^ (Lib.bitLenAux f (x / 2) - 1) := by
          rw [← Nat.pow_succ', Nat.succ_eq_add_one, Nat.sub_add_cancel (by omega)]
        omega
theorem bitLen_lt (x : Nat) (h : x < 2 ^ 64) : x < 2 ^ Lib.bitLen x := (bitLenAux_bounds 64 x h).1
theorem bitLen_ge (x : Nat) (h : x < 2 ^ 64) (h0 : x ≠ 0) : 2 ^ (Lib.bitLen x - 1) ≤ x ∧ 0 < Lib.bitLen x := (bitLenAux_bounds 64 x h).2.1 h0
theorem bitLen_le64 (x : Nat) (h : x < 2 ^ 64) : Lib.bitLen x ≤ 64 := (bitLenAux_bounds 64 x h).2.2
theorem bitLen_eq (x y : Nat) (h : x < 2 ^ 64) (hxy : x ≤ y) (hy : y < 2 ^ Lib.bitLen x) : Lib.bitLen y = Lib.bitLen x := by
  have hl := bitLen_le64 x h
  have hp : (2 : Nat) ^ Lib.bitLen x ≤ 2 ^ 64 := Nat.pow_le_pow_right (by omega) hl
  have hy64 : y < 2 ^ 64 := by omega
  by_cases h0 : x = 0
  · subst h0
    have : y = 0 := by
      have e : Lib.bitLen 0 = 0 := by decide
      rw [e] at hy
      omega
    rw [this]
  · obtain ⟨a1, a2⟩ := bitLen_ge x h h0
    obtain ⟨b1, b2⟩ := bitLen_ge y hy64 (by omega)
    have c := bitLen_lt y hy64
    have d1 : Lib.bitLen y - 1 < Lib.bitLen x := by
      rw [← Nat.pow_lt_pow_iff_right (a := 2) (by omega)]
      omega
    have d2 : Lib.bitLen x - 1 < Lib.bitLen y := by
      rw [← Nat.pow_lt_pow_iff_right (a := 2) (by omega)]
      omega
    omega
/-- One step of spreading: the bits stay within the length. -/
theorem spread_step (x y n m : Nat) (hx : x ≤ y) (hy : y < 2 ^ n) : x ≤ (y ||| (y / m)) ∧ (y ||| (y / m)) < 2 ^ n :=
  ⟨Nat.le_trans hx Nat.left_le_or, Nat.or_lt_two_pow hy (Nat.lt_of_le_of_lt (Nat.div_le_self _ _) hy)⟩

/-- The top word's bits, and 64 for each word below. -/
def blOf (xs : List Int) : Nat := (xs.length - 1) * 64 + Lib.bitLen (xs.getLastD 0).toNat
set_option maxRecDepth 100000 in
set_option maxHeartbeats 2000000 in
theorem bitLen_any (b c : Nat) (xs : List Int) (w : World) (h0 : 0 < xs.length) (hl : xs.length ≤ 1048576) (hR : Reads w b 0 xs) (hW : Words xs) :
    Calls Tryz.prog 159 #[.slice (some ⟨b, 0, none⟩) xs.length c] w fun e w' => e = .returned (.int .i64 (blOf xs)) ∧ w = w' := by
  have hlt : xs.length - 1 < xs.length := by omega
  have hlast : xs.getLastD 0 = xs[xs.length - 1] := by rw [List.getLastD_eq_getLast?, List.getLast?_eq_getElem?, List.getElem?_eq_getElem hlt]; rfl
  have hw := hW xs[xs.length - 1] (List.getElem_mem hlt)
  have hc := hR (xs.length - 1) hlt
  rw [Nat.zero_add] at hc
  obtain ⟨t, ht⟩ : ∃ t : Nat, xs[xs.length - 1] = (t : Int) := ⟨xs[xs.length - 1].toNat, by omega⟩
  rw [ht] at hc hw
  have hb : blOf xs = (xs.length - 1) * 64 + Lib.bitLen t := by unfold blOf; rw [hlast, ht]; rfl
  rw [hb]
  have ht64 : t < 2 ^ 64 := by unfold BW at hw; omega
  clear hlast ht hb hR hW hw
  generalize hn : xs.length = n at *
  clear hn xs
  obtain ⟨k, rfl⟩ := Nat.exists_eq_succ_of_ne_zero (show n ≠ 0 by omega)
  rw [Nat.succ_eq_add_one, Nat.add_sub_cancel] at *
  have step : ∀ (y m : Nat), t ≤ y → y < 2 ^ Lib.bitLen t → ∃ z : Nat, bits .or .u64 (y : Int) ((y : Int) / (m : Int)) = (z : Int) ∧ t ≤ z ∧ z < 2 ^ Lib.bitLen t := fun y m h1 h2 => by
    have hp : (2 : Nat) ^ Lib.bitLen t ≤ 2 ^ 64 := Nat.pow_le_pow_right (by omega) (bitLen_le64 t ht64)
    have h3 := spread_step t y _ m h1 h2
    have h4 := Nat.div_le_self y m
    refine ⟨_, ?_, h3⟩
    rw [← Int.natCast_ediv]
    exact bits_or_u64_nat y (y / m) (by omega) (by omega)
  obtain ⟨t1, e1, l1, u1⟩ := step t 2 (Nat.le_refl _) (bitLen_lt t ht64)
  obtain ⟨t2, e2, l2, u2⟩ := step t1 4 l1 u1
  obtain ⟨t3, e3, l3, u3⟩ := step t2 16 l2 u2
  obtain ⟨t4, e4, l4, u4⟩ := step t3 256 l3 u3
  obtain ⟨t5, e5, l5, u5⟩ := step t4 65536 l4 u4
  obtain ⟨t6, e6', l6, u6⟩ := step t5 4294967296 l5 u5
  have e6 : bits .or .u64 (t5 : Int) ((t5 : Int) / 65536 / 65536) = (t6 : Int) := by
    rw [← e6']
    congr 1
    omega
  simp only [Int.cast_ofNat_Int] at e1 e2 e3 e4 e5
  have hbl := bitLen_eq t t6 ht64 l6 u6
  have HBL : Hid (Lib.bitLen t6 = Lib.bitLen t) := hbl
  have h64 : (t6 : Int) ≤ 18446744073709551615 := by
    have hp : (2 : Nat) ^ Lib.bitLen t ≤ 2 ^ 64 := Nat.pow_le_pow_right (by omega) (bitLen_le64 t ht64)
    omega
  have hbt := bitLen_le64 t6 (by omega)
  have H64 := Lib.hid h64
  clear step l1 u1 l2 u2 l3 u3 l4 u4 l5 u5 l6 u6 e6' hbl h64 ht64
  go_enter Tryz.func159, Tryz.ntmps159
  go_wp2_with (go_at_call 158; refine (Tryz.bits_Len (t6 : Int) _ (by omega) H64.out).mono ?_; rintro e w' ⟨rfl, rfl⟩)
  go_ret
  refine ⟨?_, rfl⟩
  rw [← HBL.out]
  simp
  try omega
end Go.Proofs.YtoofphhfealcaaaGreatDoor
