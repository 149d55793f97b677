/-
  WALKS: single words: Add, Mul, Sub of math/bits; mulWW, mulAddWWW_g of bigall.
  WALKS: vectors of words: mulAddVWW.
  WALKS: norm, make, setWord, mulAddWW of nat.
-/
import Derived.Test.YtoofphhfealcaaaGreatDoorB2
import Derived.Lib.Mul64
import Derived.Laws.Externs
import Derived.Shelf.Spec.BitsCarry
import Derived.Laws.IdiomCopy
namespace Go.Proofs.YtoofphhfealcaaaGreatDoor
open Go.RowKit

/-- 2 to 64. -/
def BW : Int := 18446744073709551616
theorem BW_eq : BW = 18446744073709551616 := rfl
def aLo (x y c : Int) : Int := (x + y + c) % BW
def aHi (x y c : Int) : Int := (x + y + c) / BW
def sLo (x y c : Int) : Int := (x - y - c) % BW
def sHi (x y c : Int) : Int := if x < y + c then 1 else 0
def mLo (x y c : Int) : Int := (x * y + c) % BW
def mHi (x y c : Int) : Int := (x * y + c) / BW

theorem call277 (x y c : Int) (hx : 0 ≤ x) (hy : 0 ≤ y) (hc0 : 0 ≤ c) (hc : c ≤ 1) (w : World) :
    (callFunc 277 #[.int .u64 x, .int .u64 y, .int .u64 c]).run Tryz.prog w = .ok (.value (.tuple #[.int .u64 (aLo x y c), .int .u64 (aHi x y c)])) w := by
  rw [run_callFunc_extern Tryz.func277 (by kernel_rfl) (by kernel_rfl) (by kernel_rfl) (e := add64Entry) (by kernel_rfl), run_add64 x y c hx hy hc0 hc]
  rfl
theorem call286 (x y c : Int) (hx : 0 ≤ x) (hy : 0 ≤ y) (hy1 : y < BW) (hc0 : 0 ≤ c) (hc : c ≤ 1) (w : World) :
    (callFunc 286 #[.int .u64 x, .int .u64 y, .int .u64 c]).run Tryz.prog w = .ok (.value (.tuple #[.int .u64 (sLo x y c), .int .u64 (sHi x y c)])) w := by
  obtain ⟨x, rfl⟩ := Int.eq_ofNat_of_zero_le hx
  obtain ⟨y, rfl⟩ := Int.eq_ofNat_of_zero_le hy
  obtain ⟨b, rfl⟩ := Int.eq_ofNat_of_zero_le hc0
  unfold BW at hy1
  have e1 : (((x + 18446744073709551616 - y - b) % 18446744073709551616 : Nat) : Int) = sLo x y b := by unfold sLo BW; omega
  have e2 : ((if x < y + b then 1 else 0 : Nat) : Int) = sHi x y b := by unfold sHi; split <;> split <;> omega
  rw [run_callFunc_extern Tryz.func286 (by kernel_rfl) (by kernel_rfl) (by kernel_rfl) (e := sub64Entry) (by kernel_rfl), run_sub64 x y b (by omega), e1, e2]
  rfl

set_option maxHeartbeats 1000000 in
theorem bits_Add (x y c : Int) (w : World) (hx : 0 ≤ x) (hy : 0 ≤ y) (hc0 : 0 ≤ c) (hc : c ≤ 1) :
    Calls Tryz.prog 242 #[.int .u64 x, .int .u64 y, .int .u64 c] w fun e w' => e = .returned (.tuple #[.int .u64 (aLo x y c), .int .u64 (aHi x y c)]) ∧ w = w' := by
  have H := call277 x y c hx hy hc0 hc
  clear hx hy hc0 hc
  go_enter Tryz.func242, Tryz.ntmps242
  go_wp2
  go_ret2
  exact ⟨rfl, rfl⟩
set_option maxHeartbeats 1000000 in
theorem bits_Sub (x y c : Int) (w : World) (hx : 0 ≤ x) (hy : 0 ≤ y) (hy1 : y < BW) (hc0 : 0 ≤ c) (hc : c ≤ 1) :
    Calls Tryz.prog 275 #[.int .u64 x, .int .u64 y, .int .u64 c] w fun e w' => e = .returned (.tuple #[.int .u64 (sLo x y c), .int .u64 (sHi x y c)]) ∧ w = w' := by
  have H := call286 x y c hx hy hy1 hc0 hc
  clear hx hy hc0 hc
  go_enter Tryz.func275, Tryz.ntmps275
  go_wp2
  go_ret2
  exact ⟨rfl, rfl⟩

theorem maskN (a : Nat) (ha : a < 18446744073709551616) : bits .and .u64 (a : Int) 4294967295 = ((a % 4294967296 : Nat) : Int) := by
  have h := bits_and_u64_nat a 4294967295 ha (by omega)
  have e : a &&& 4294967295 = a % 4294967296 := Nat.and_two_pow_sub_one_eq_mod a 32
  rw [e] at h
  exact h
theorem divN (a : Nat) : (a : Int) / 4294967296 = ((a / 4294967296 : Nat) : Int) := by omega
theorem mulN (a b : Nat) : (a : Int) * (b : Int) = ((a * b : Nat) : Int) := (Int.natCast_mul a b).symm
theorem addN (a b : Nat) : (a : Int) + (b : Int) = ((a + b : Nat) : Int) := (Int.natCast_add a b).symm
theorem wrapN (a : Nat) (ha : a < 18446744073709551616) : IntKind.u64.wrap (a : Int) = (a : Int) := by rw [IntKind.wrap_u64]; omega
theorem wrapM (a : Nat) : IntKind.u64.wrap (a : Int) = ((a % 18446744073709551616 : Nat) : Int) := by rw [IntKind.wrap_u64]; omega

set_option maxHeartbeats 1000000 in
theorem mul64_nat (x y : Nat) (hx : x < 18446744073709551616) (hy : y < 18446744073709551616) (w : World) :
    Calls Tryz.prog 262 #[.int .u64 x, .int .u64 y] w fun e w' => e = .returned (.tuple #[.int .u64 ((x * y / 18446744073709551616 : Nat) : Int), .int .u64 ((x * y % 18446744073709551616 : Nat) : Int)]) ∧ w = w' := by
  obtain ⟨bd, bt, bw, hhi⟩ := Lib.mul64_hi x y hx hy
  have ba := Lib.half_mul_le (a := x / 4294967296) (b := y / 4294967296) (by omega) (by omega)
  have bb := Lib.half_mul_le (a := x / 4294967296) (b := y % 4294967296) (by omega) (by omega)
  have bc := Lib.half_mul_le (a := x % 4294967296) (b := y / 4294967296) (by omega) (by omega)
  have ba' : x / 4294967296 * (y / 4294967296) < 18446744073709551616 := by omega
  have bb' : x / 4294967296 * (y % 4294967296) < 18446744073709551616 := by omega
  have bc' : x % 4294967296 * (y / 4294967296) < 18446744073709551616 := by omega
  have bh1 : x / 4294967296 * (y / 4294967296) + (x / 4294967296 * (y % 4294967296) + x % 4294967296 * (y % 4294967296) / 4294967296) / 4294967296 < 18446744073709551616 := by omega
  have bh : x / 4294967296 * (y / 4294967296) + (x / 4294967296 * (y % 4294967296) + x % 4294967296 * (y % 4294967296) / 4294967296) / 4294967296 + ((x / 4294967296 * (y % 4294967296) + x % 4294967296 * (y % 4294967296) / 4294967296) % 4294967296 + x % 4294967296 * (y / 4294967296)) / 4294967296 < 18446744073709551616 := by omega
  go_enter Tryz.func262, Tryz.ntmps262
  go_wp2
  simp only [maskN x hx, maskN y hy, divN, mulN, addN, wrapN _ bd, wrapN _ bb', wrapN _ bt, maskN _ bt, wrapN _ bc', wrapN _ bw, wrapN _ ba', wrapN _ bh1, wrapN _ bh, wrapM (x * y)]
  rw [hhi]
  go_ret2
  exact ⟨rfl, rfl⟩
theorem bits_Mul64 (x y : Int) (w : World) (hx0 : 0 ≤ x) (hx : x < BW) (hy0 : 0 ≤ y) (hy : y < BW) :
    Calls Tryz.prog 262 #[.int .u64 x, .int .u64 y] w fun e w' => e = .returned (.tuple #[.int .u64 (mHi x y 0), .int .u64 (mLo x y 0)]) ∧ w = w' := by
  obtain ⟨x, rfl⟩ := Int.eq_ofNat_of_zero_le hx0
  obtain ⟨y, rfl⟩ := Int.eq_ofNat_of_zero_le hy0
  unfold BW at hx hy
  refine (mul64_nat x y (by omega) (by omega) w).mono ?_
  rintro e w' ⟨rfl, rfl⟩
  have e1 : ((x * y / 18446744073709551616 : Nat) : Int) = mHi x y 0 := by unfold mHi BW; simp
  have e2 : ((x * y % 18446744073709551616 : Nat) : Int) = mLo x y 0 := by unfold mLo BW; simp
  rw [e1, e2]
  exact ⟨rfl, rfl⟩
theorem bits_Mul (x y : Int) (w : World) (hx0 : 0 ≤ x) (hx : x < BW) (hy0 : 0 ≤ y) (hy : y < BW) :
    Calls Tryz.prog 227 #[.int .u64 x, .int .u64 y] w fun e w' => e = .returned (.tuple #[.int .u64 (mHi x y 0), .int .u64 (mLo x y 0)]) ∧ w = w' := by
  go_enter Tryz.func227, Tryz.ntmps227
  go_wp2_with (go_at_call 262; refine (bits_Mul64 x y _ hx0 hx hy0 hy).mono ?_; rintro e w' ⟨rfl, rfl⟩)
  go_ret2
  exact ⟨rfl, rfl⟩
theorem mulWW_any (x y : Int) (w : World) (hx0 : 0 ≤ x) (hx : x < BW) (hy0 : 0 ≤ y) (hy : y < BW) :
    Calls Tryz.prog 208 #[.int .u64 x, .int .u64 y] w fun e w' => e = .returned (.tuple #[.int .u64 (mHi x y 0), .int .u64 (mLo x y 0)]) ∧ w = w' := by
  go_enter Tryz.func208, Tryz.ntmps208
  go_wp2_with (go_at_call 227; refine (bits_Mul x y _ hx0 hx hy0 hy).mono ?_; rintro e w' ⟨rfl, rfl⟩)
  go_ret2
  exact ⟨rfl, rfl⟩

theorem mLo_rng (x y c : Int) : 0 ≤ mLo x y c ∧ mLo x y c < BW := by unfold mLo BW; omega
theorem mHi_rng (x y c : Int) (hx0 : 0 ≤ x) (hx : x < BW) (hy0 : 0 ≤ y) (hy : y < BW) (hc0 : 0 ≤ c) (hc : c < BW) : 0 ≤ mHi x y c ∧ mHi x y c < BW := by
  have h1 : 0 ≤ x * y := Int.mul_nonneg hx0 hy0
  have h2 : x * y ≤ (BW - 1) * (BW - 1) := Int.mul_le_mul (by omega) (by omega) hy0 (by unfold BW; omega)
  unfold mHi
  unfold BW at *
  omega
theorem mAdd (x y c : Int) (hx0 : 0 ≤ x) (hx : x < BW) (hy0 : 0 ≤ y) (hy : y < BW) (hc0 : 0 ≤ c) (hc : c < BW) :
    IntKind.u64.wrap (mHi x y 0 + aHi (mLo x y 0) c 0) = mHi x y c ∧ aLo (mLo x y 0) c 0 = mLo x y c := by
  have h1 : 0 ≤ x * y := Int.mul_nonneg hx0 hy0
  have h2 : x * y ≤ (BW - 1) * (BW - 1) := Int.mul_le_mul (by omega) (by omega) hy0 (by unfold BW; omega)
  rw [IntKind.wrap_u64]
  unfold mHi mLo aHi aLo
  unfold BW at *
  omega
set_option maxHeartbeats 1000000 in
theorem mulAddWWW_any (x y c : Int) (w : World) (hx0 : 0 ≤ x) (hx : x < BW) (hy0 : 0 ≤ y) (hy : y < BW) (hc0 : 0 ≤ c) (hc : c < BW) :
    Calls Tryz.prog 214 #[.int .u64 x, .int .u64 y, .int .u64 c] w fun e w' => e = .returned (.tuple #[.int .u64 (mHi x y c), .int .u64 (mLo x y c)]) ∧ w = w' := by
  have H := Lib.hid (mAdd x y c hx0 hx hy0 hy hc0 hc)
  go_enter Tryz.func214, Tryz.ntmps214
  go_wp2_with (first
    | (go_at_call 227; refine (bits_Mul x y _ hx0 hx hy0 hy).mono ?_; rintro e w' ⟨rfl, rfl⟩)
    | (go_at_call 242; refine (bits_Add _ _ _ _ (mLo_rng _ _ _).1 hc0 (by omega) (by omega)).mono ?_; rintro e w' ⟨rfl, rfl⟩))
  go_ret2
  exact ⟨by rw [H.out.1, H.out.2]; rfl, rfl⟩

end Go.Proofs.YtoofphhfealcaaaGreatDoor

namespace Go.Proofs.YtoofphhfealcaaaGreatDoor
open Go.RowKit

/-- A list of words. -/
def Words (l : List Int) : Prop := ∀ x ∈ l, 0 ≤ x ∧ x < BW
def wv (l : List Int) : List Value := l.map (Value.int .u64)
theorem wv_len (l : List Int) : (wv l).length = l.length := by simp [wv]
theorem setCells_snoc (b : Nat) : ∀ (vs : List Value) (o : Nat) (w : World) (v : Value), w.setCells b o (vs ++ [v]) = (w.setCells b o vs).setCell ⟨b, o + vs.length, none⟩ v
  | [], o, w, v => by simp [World.setCells]
  | u :: r, o, w, v => by
    rw [List.cons_append, World.setCells, World.setCells, setCells_snoc b r]
    simp [Nat.add_comm 1, Nat.add_assoc]
theorem heap_setCells (b : Nat) : ∀ (vs : List Value) (o : Nat) (w : World), (w.setCells b o vs).heap.size = w.heap.size
  | [], _, _ => rfl
  | v :: r, o, w => by rw [World.setCells, heap_setCells b r]; simp [World.setCell]

/-- The cells that a call may write: n of them in block b from o on. -/
def Room (w : World) (b o n : Nat) : Prop := ∀ j, j < n → (∃ u, w.cell? ⟨b, o + j, none⟩ = some u) ∧ w.frozen? ⟨b, o + j, none⟩ = false
/-- The words that stand in a block from o on. -/
def Reads (w : World) (b o : Nat) (l : List Int) : Prop := ∀ j (h : j < l.length), w.cell? ⟨b, o + j, none⟩ = some (.int .u64 l[j])
theorem reads_setCells {w : World} {xb xo : Nat} {xs : List Int} (h : Reads w xb xo xs) {b o : Nat} (vs : List Value) {k : Nat} (hk : k < xs.length) (hc : xb ≠ b ∨ xo + k < o ∨ o + vs.length ≤ xo + k) : (w.setCells b o vs).cell? ⟨xb, xo + k, none⟩ = some (.int .u64 xs[k]) := by
  rw [World.cell?_setCells_out _ _ _ _ _ (fun e _ => by simp at e; have : xb = b := e; simp; omega)]
  exact h k hk
theorem room_cell {w : World} {b o n : Nat} (h : Room w b o n) (vs : List Value) {k : Nat} (hk : k < n) (hl : vs.length ≤ k) : ∃ u, (w.setCells b o vs).cell? ⟨b, o + k, none⟩ = some u := by
  rw [World.cell?_setCells_out _ _ _ _ _ (fun _ _ => by simp; omega)]
  exact (h k hk).1

theorem setCells_wv {w : World} {b o k : Nat} {l : List Int} (hk : l.length = k) (v : Int) : (w.setCells b o (wv l)).setCell ⟨b, o + k, none⟩ (.int .u64 v) = w.setCells b o (wv (l ++ [v])) := by
  rw [wv, wv, List.map_append, List.map_cons, List.map_nil, setCells_snoc, List.length_map, hk]

def mvL : List Int → Int → Int → List Int
  | [], _, _ => []
  | x :: r, y, c => mLo x y c :: mvL r y (mHi x y c)
def mvC : List Int → Int → Int → Int
  | [], _, c => c
  | x :: r, y, c => mvC r y (mHi x y c)
theorem mvL_snoc : ∀ (l : List Int) (x y c : Int), mvL (l ++ [x]) y c = mvL l y c ++ [mLo x y (mvC l y c)]
  | [], _, _, _ => rfl
  | _ :: r, x, y, c => by simp [mvL, mvC, mvL_snoc r]
theorem mvC_snoc : ∀ (l : List Int) (x y c : Int), mvC (l ++ [x]) y c = mHi x y (mvC l y c)
  | [], _, _, _ => rfl
  | _ :: r, x, y, c => by simp [mvC, mvC_snoc r]
theorem mvL_len : ∀ (l : List Int) (y c : Int), (mvL l y c).length = l.length
  | [], _, _ => rfl
  | _ :: r, y, c => by simp [mvL, mvL_len r]
theorem mvC_rng : ∀ (l : List Int) (y c : Int), Words l → 0 ≤ y → y < BW → 0 ≤ c → c < BW → 0 ≤ mvC l y c ∧ mvC l y c < BW
  | [], _, _, _, _, _, hc0, hc => ⟨hc0, hc⟩
  | x :: r, y, c, hl, hy0, hy, hc0, hc => by
    have hx := hl x (by simp)
    have hm := mHi_rng x y c hx.1 hx.2 hy0 hy hc0 hc
    exact mvC_rng r y _ (fun z hz => hl z (by simp [hz])) hy0 hy hm.1 hm.2

/-- x's cells are read ahead of z's writes: another block, or no earlier place, or far behind. -/
def Clear (zb zo xb xo n : Nat) : Prop := xb ≠ zb ∨ zo ≤ xo ∨ xo + n ≤ zo

set_option maxHeartbeats 2000000 in
theorem mulAddVWW_g_any (zb zo zc xb xo xc : Nat) (xs : List Int) (y r : Int) (w : World) (hx : Words xs) (hy0 : 0 ≤ y) (hy : y < BW) (hr0 : 0 ≤ r) (hr : r < BW) (hn : xs.length ≤ 1099511627776)
    (hR : Reads w xb xo xs) (hZ : Room w zb zo xs.length) (hC : Clear zb zo xb xo xs.length) :
    Calls Tryz.prog 197 #[.slice (some ⟨zb, zo, none⟩) xs.length zc, .slice (some ⟨xb, xo, none⟩) xs.length xc, .int .u64 y, .int .u64 r] w fun e w' =>
      e = .returned (.int .u64 (mvC xs y r)) ∧ w.setCells zb zo (wv (mvL xs y r)) = w' := by
  have HX := Lib.hid hx; have HR := Lib.hid hR; have HZ := Lib.hid hZ; have HC := Lib.hid hC
  clear hx hR hZ hC
  go_enter Tryz.func197, Tryz.ntmps197
  go_wp2
  go_loopw [8, 9, 19] (fun c _ i wr => ∃ k : Nat, k ≤ xs.length ∧ i = .int .i64 k ∧ c = .int .u64 (mvC (xs.take k) y r) ∧ wr = w.setCells zb zo (wv (mvL (xs.take k) y r))) (fun _ _ i _ => xs.length - (intOf i).toNat)
  case atStart => exact ⟨0, by omega, rfl, by simp [mvC], by simp [mvL, wv, World.setCells]⟩
  case round =>
    obtain ⟨k, hk, rfl, rfl, hw⟩ := hrel
    have HW := Lib.hid hw
    clear hw
    have hl : (mvL (xs.take k) y r).length = k := by rw [mvL_len, List.length_take]; omega
    have hcr := mvC_rng (xs.take k) y r (fun z hz => HX.out z (List.mem_of_mem_take hz)) hy0 hy hr0 hr
    by_cases hlt : k < xs.length
    · have hxk : wr.cell? ⟨xb, xo + k, none⟩ = some (.int .u64 xs[k]) := by
        rw [HW.out]
        exact reads_setCells HR.out _ hlt (by have := HC.out; unfold Clear at this; rw [wv_len]; omega)
      obtain ⟨u, hzk⟩ : ∃ u, wr.cell? ⟨zb, zo + k, none⟩ = some u := by
        rw [HW.out]
        exact room_cell HZ.out _ hlt (by rw [wv_len]; omega)
      have hzf : wr.frozen? ⟨zb, zo + k, none⟩ = false := by rw [HW.out, World.frozen?_setCells]; exact (HZ.out k hlt).2
      have hxr := HX.out xs[k] (List.getElem_mem hlt)
      have ht : xs.take (k + 1) = xs.take k ++ [xs[k]] := by rw [List.take_succ_eq_append_getElem hlt]
      have HT := Lib.hid ht
      have HL := Lib.hid hl
      clear ht hl
      generalize hmc : mvC (xs.take k) y r = mc at *
      have HM := Lib.hid hmc
      clear hmc
      go_wp2_with (go_at_call 214; refine (mulAddWWW_any _ _ _ _ hxr.1 hxr.2 hy0 hy hcr.1 hcr.2).mono ?_; rintro e w' ⟨rfl, rfl⟩)
      go_roundw
      case rel => exact ⟨k + 1, by omega, by go_num, by rw [HT.out, mvC_snoc, HM.out], by rw [HT.out, mvL_snoc, HM.out, HW.out]; exact setCells_wv HL.out _⟩
      case measure => simp [intOf]; omega
    · have hke : k = xs.length := by omega
      have HK : Hid (xs.take k = xs) := by rw [hke]; exact List.take_length
      have hlt' : decide (k < xs.length) = false := by simpa using hlt
      clear hke
      go_wp2_with fail
      go_ret
      exact ⟨by rw [HK.out]; rfl, by rw [HW.out, HK.out]⟩
theorem mulAddVWW_any (zb zo zc xb xo xc : Nat) (xs : List Int) (y r : Int) (w : World) (hx : Words xs) (hy0 : 0 ≤ y) (hy : y < BW) (hr0 : 0 ≤ r) (hr : r < BW) (hn : xs.length ≤ 1099511627776)
    (hR : Reads w xb xo xs) (hZ : Room w zb zo xs.length) (hC : Clear zb zo xb xo xs.length) :
    Calls Tryz.prog 172 #[.slice (some ⟨zb, zo, none⟩) xs.length zc, .slice (some ⟨xb, xo, none⟩) xs.length xc, .int .u64 y, .int .u64 r] w fun e w' =>
      e = .returned (.int .u64 (mvC xs y r)) ∧ w.setCells zb zo (wv (mvL xs y r)) = w' := by
  go_enter Tryz.func172, Tryz.ntmps172
  go_wp2_with (go_at_call 197; refine (mulAddVWW_g_any zb zo zc xb xo xc xs y r _ hx hy0 hy hr0 hr hn hR hZ hC).mono ?_; rintro e w' ⟨rfl, rfl⟩)
  go_ret
  exact ⟨rfl, rfl⟩

end Go.Proofs.YtoofphhfealcaaaGreatDoor

namespace Go.Proofs.YtoofphhfealcaaaGreatDoor
open Go.RowKit

/-- Without the zeros at the end. -/
def nrm : List Int → List Int
  | [] => []
  | x :: r => if nrm r = [] ∧ x = 0 then [] else x :: nrm r
/-- The number that words write, the lowest first. -/
def val : List Int → Int
  | [] => 0
  | x :: r => x + BW * val r
theorem nrm_snoc0 : ∀ l : List Int, nrm (l ++ [0]) = nrm l
  | [] => by simp [nrm]
  | x :: r => by simp [nrm, nrm_snoc0 r]
theorem nrm_snoc : ∀ (l : List Int) (x : Int), x ≠ 0 → nrm (l ++ [x]) = l ++ [x]
  | [], x, h => by simp [nrm, h]
  | y :: r, x, h => by simp [nrm, nrm_snoc r x h]
theorem nrm_len : ∀ l : List Int, (nrm l).length ≤ l.length
  | [] => by simp [nrm]
  | x :: r => by
    have := nrm_len r
    unfold nrm
    split <;> simp
    exact this
theorem nrm_take : ∀ l : List Int, l.take (nrm l).length = nrm l
  | [] => rfl
  | x :: r => by
    unfold nrm
    split
    · simp
    · simp [nrm_take r]
theorem val_nrm : ∀ l : List Int, val (nrm l) = val l
  | [] => rfl
  | x :: r => by
    have ih := val_nrm r
    unfold nrm
    split
    · rename_i h
      rw [h.1] at ih
      simp only [val] at ih ⊢
      rw [← ih, h.2]
      simp
    · simp [val, ih]
theorem words_nrm {l : List Int} (h : Words l) : Words (nrm l) := fun x hx => h x (by rw [← nrm_take l] at hx; exact List.mem_of_mem_take hx)
theorem nrm_nrm : ∀ l : List Int, nrm (nrm l) = nrm l
  | [] => rfl
  | x :: r => by
    have ih := nrm_nrm r
    by_cases h : nrm r = [] ∧ x = 0
    · have e : nrm (x :: r) = [] := by simp [nrm, h]
      rw [e]; rfl
    · have e : nrm (x :: r) = x :: nrm r := by rw [nrm, if_neg h]
      rw [e, nrm, ih, if_neg h]

theorem val_snoc : ∀ (l : List Int) (x : Int), val (l ++ [x]) = val l + BW ^ l.length * x
  | [], x => by simp [val]
  | y :: r, x => by
    simp only [List.cons_append, val, val_snoc r x, List.length_cons, Int.pow_succ]
    rw [Int.mul_add, Int.mul_comm (BW ^ r.length) BW, Int.mul_assoc, Int.add_assoc]
theorem val_mv : ∀ (l : List Int) (y c : Int), val (mvL l y c) + BW ^ l.length * mvC l y c = val l * y + c
  | [], y, c => by simp [val, mvL, mvC]
  | x :: r, y, c => by
    have ih := val_mv r y (mHi x y c)
    have h : mLo x y c + BW * mHi x y c = x * y + c := by unfold mLo mHi; have := Int.emod_add_mul_ediv (x * y + c) BW; omega
    simp only [val, mvL, mvC, List.length_cons, Int.pow_succ]
    have e : BW ^ r.length * BW * mvC r y (mHi x y c) = BW * (BW ^ r.length * mvC r y (mHi x y c)) := by rw [Int.mul_comm (BW ^ r.length) BW, Int.mul_assoc]
    rw [e, Int.add_assoc, ← Int.mul_add, ih, Int.mul_add, ← Int.add_assoc, Int.add_right_comm, h, Int.add_mul, ← Int.mul_assoc]
    omega
theorem val_nonneg : ∀ l : List Int, Words l → 0 ≤ val l
  | [], _ => by simp [val]
  | x :: r, h => by
    have := val_nonneg r (fun y hy => h y (by simp [hy]))
    have hx := h x (by simp)
    have : 0 ≤ BW * val r := Int.mul_nonneg (by unfold BW; omega) this
    simp only [val]; omega
theorem val_pos : ∀ l : List Int, Words l → nrm l = l → 0 < l.length → 0 < val l
  | [], _, _, h => absurd h (by simp)
  | x :: r, hw, hn, _ => by
    have hr : Words r := fun y hy => hw y (by simp [hy])
    have hx := hw x (by simp)
    by_cases h : nrm r = [] ∧ x = 0
    · rw [nrm, if_pos h] at hn; simp at hn
    · rw [nrm, if_neg h] at hn
      injection hn with _ hn
      simp only [val]
      by_cases h0 : 0 < r.length
      · have := val_pos r hr hn h0
        have : 0 < BW * val r := Int.mul_pos (by unfold BW; omega) this
        omega
      · have : r = [] := List.eq_nil_of_length_eq_zero (by omega)
        subst this
        have : x ≠ 0 := fun e => h ⟨rfl, e⟩
        simp only [val]
        omega
theorem words_mv : ∀ (l : List Int) (y c : Int), Words (mvL l y c)
  | [], _, _ => by intro z hz; simp [mvL] at hz
  | x :: r, y, c => by
    intro z hz
    simp only [mvL, List.mem_cons] at hz
    rcases hz with rfl | hz
    · exact mLo_rng _ _ _
    · exact words_mv r y _ z hz
theorem words_snoc {l : List Int} {x : Int} (h : Words l) (hx : 0 ≤ x ∧ x < BW) : Words (l ++ [x]) := by
  intro z hz
  rw [List.mem_append, List.mem_singleton] at hz
  rcases hz with hz | rfl
  · exact h z hz
  · exact hx

set_option maxHeartbeats 2000000 in
theorem norm_any (b o c : Nat) (xs : List Int) (w : World) (hn : xs.length ≤ 1099511627776) (hc : xs.length ≤ c) (hR : Reads w b o xs) :
    Calls Tryz.prog 154 #[.slice (some ⟨b, o, none⟩) xs.length c] w fun e w' => e = .returned (.slice (some ⟨b, o, none⟩) (nrm xs).length c) ∧ w = w' := by
  have HR := Lib.hid hR
  clear hR
  go_enter Tryz.func154, Tryz.ntmps154
  go_wp2_with fail
  go_loop [3] (fun i => ∃ k : Nat, k ≤ xs.length ∧ i = .int .i64 k ∧ Hid (nrm (xs.take k) = nrm xs)) (fun i => (intOf i).toNat)
  case atStart => exact ⟨xs.length, by omega, rfl, by rw [List.take_length]; rfl⟩
  case round =>
    obtain ⟨k, hk, rfl, HK⟩ := hrel
    by_cases h0 : 0 < k
    · have hlt : k - 1 < xs.length := by omega
      have hxk : w.cell? ⟨b, o + (k - 1), none⟩ = some (.int .u64 xs[k - 1]) := HR.out (k - 1) hlt
      have ht : xs.take k = xs.take (k - 1) ++ [xs[k - 1]] := by
        have := List.take_succ_eq_append_getElem hlt
        rw [show k - 1 + 1 = k by omega] at this
        exact this
      have HT := Lib.hid ht
      clear ht
      have hpos : decide ((0 : Int) < (k : Int)) = true := by simp; omega
      by_cases hz : xs[k - 1] = 0
      · rw [hz] at hxk
        have HZ := Lib.hid hz
        clear hz
        go_wp2_with fail
        go_round
        case rel => exact ⟨k - 1, by omega, by go_num, by have h := HK.out; rw [HT.out, HZ.out, nrm_snoc0] at h; exact h⟩
        case measure => simp [intOf]; omega
      · have hz' : ((xs[k - 1] : Int) == 0) = false := by simpa using hz
        have HZ := Lib.hid hz
        clear hz
        have HL : Hid ((nrm xs).length = k) := by
          have h := HK.out
          rw [HT.out, nrm_snoc _ _ HZ.out, ← HT.out] at h
          show (nrm xs).length = k
          rw [← h, List.length_take]
          omega
        go_wp2_with fail
        go_ret
        exact ⟨by rw [HL.out]; rfl, rfl⟩
    · have h00 : k = 0 := by omega
      subst h00
      have HL : Hid ((nrm xs).length = 0) := by
        have h := HK.out
        rw [List.take_zero] at h
        show (nrm xs).length = 0
        rw [← h]; rfl
      go_wp2_with fail
      go_ret
      exact ⟨by rw [HL.out]; rfl, rfl⟩

theorem norm_n (b o c n : Nat) (xs : List Int) (w : World) (hl : xs.length = n) (hn : n ≤ 1099511627776) (hc : n ≤ c) (hR : Reads w b o xs) :
    Calls Tryz.prog 154 #[.slice (some ⟨b, o, none⟩) n c] w fun e w' => e = .returned (.slice (some ⟨b, o, none⟩) (nrm xs).length c) ∧ w = w' := by
  subst hl
  exact norm_any b o c xs w hn hc hR
theorem norm_nil (w : World) : Calls Tryz.prog 154 #[.slice none 0 0] w fun e w' => e = .returned (.slice none 0 0) ∧ w = w' := by
  go_enter Tryz.func154, Tryz.ntmps154
  go_wp2_with fail
  refine wp_loop_rounds 1 ?_
  rw [rounds_succ]
  go_wp2_with fail
  go_ret
  exact ⟨rfl, rfl⟩

/-- The words' type in the table. -/
theorem info156 : (Tryz.prog.info? 156).map (fun i => (i.zero, i.size, i.bytes)) = some (some (.int .u64 0), 1, 8) := by kernel_rfl
theorem und110 : Tryz.prog.underlying 110 = some (.slice 156) := by kernel_rfl
theorem und109 : Tryz.prog.underlying 109 = some (.slice 156) := by kernel_rfl

theorem make_words (t : TypeId) (ht : Tryz.prog.underlying t = some (.slice 156)) (n c : Nat) (C : Int) (hC : C = (c : Int)) (hn : n ≤ c) (hc : c ≤ 35184372088832) (w : World) :
    (Instr.makeSlice t (.int .i64 (n : Int)) (.int .i64 C)).run Tryz.prog w = .ok (.slice (some ⟨w.heap.size, 0, none⟩) n c) (w.alloc (.cells (madeCells #[.int .u64 0] c) 156)) := by
  obtain ⟨i0, hi, hz0, hz1, hz2⟩ := info_parts info156
  subst hC
  have := run_make (P := Tryz.prog) (w := w) t 156 i0 (.int .u64 0) ht hi hz0 .i64 .i64 (n : Int) (c : Int) (by omega) (by omega) (by rw [hz2]; omega) (by omega)
  rw [this, hz1]
  simp [Value.cells]
theorem make_fit (b o m c n : Nat) (w : World) (hn : n ≤ c) (_hc : c ≤ 1099511627776) :
    Calls Tryz.prog 171 #[.slice (some ⟨b, o, none⟩) m c, .int .i64 n] w fun e w' => e = .returned (.slice (some ⟨b, o, none⟩) n c) ∧ w = w' := by
  have hle : decide ((n : Int) ≤ (c : Int)) = true := by simp; omega
  go_enter Tryz.func171, Tryz.ntmps171
  go_wp2_with fail
  go_ret
  exact ⟨rfl, rfl⟩
theorem make_nil0 (w : World) : Calls Tryz.prog 171 #[.slice none 0 0, .int .i64 0] w fun e w' => e = .returned (.slice none 0 0) ∧ w = w' := by
  go_enter Tryz.func171, Tryz.ntmps171
  go_wp2_with fail
  go_ret
  exact ⟨rfl, rfl⟩
theorem make_one (A : Option Addr) (m : Nat) (w : World) :
    Calls Tryz.prog 171 #[.slice A m 0, .int .i64 1] w fun e w' => e = .returned (.slice (some ⟨w.heap.size, 0, none⟩) 1 1) ∧ w.alloc (.cells (madeCells #[.int .u64 0] 1) 156) = w' := by
  have hmk : ∀ w, (Instr.makeSlice 110 (.int .i64 1) (.int .i64 1)).run Tryz.prog w = .ok (.slice (some ⟨w.heap.size, 0, none⟩) 1 1) (w.alloc (.cells (madeCells #[.int .u64 0] 1) 156)) := fun w =>
    make_words 110 und110 1 1 1 rfl (by omega) (by omega) w
  go_enter Tryz.func171, Tryz.ntmps171
  go_wp2_with fail
  go_ret
  exact ⟨rfl, rfl⟩
theorem make_new (A : Option Addr) (m c n : Nat) (w : World) (hn : c < n) (h1 : 2 ≤ n) (hc : n ≤ 1099511627776) :
    Calls Tryz.prog 171 #[.slice A m c, .int .i64 n] w fun e w' => e = .returned (.slice (some ⟨w.heap.size, 0, none⟩) n (n + 4)) ∧ w.alloc (.cells (madeCells #[.int .u64 0] (n + 4)) 156) = w' := by
  have hle : decide ((n : Int) ≤ (c : Int)) = false := by simp; omega
  have h1' : ((n : Int) == 1) = false := by simp; omega
  have hmk : ∀ w, (Instr.makeSlice 110 (.int .i64 n) (.int .i64 ((n : Int) + 4))).run Tryz.prog w = .ok (.slice (some ⟨w.heap.size, 0, none⟩) n (n + 4)) (w.alloc (.cells (madeCells #[.int .u64 0] (n + 4)) 156)) := fun w =>
    make_words 110 und110 n (n + 4) _ (by omega) (by omega) (by omega) w
  go_enter Tryz.func171, Tryz.ntmps171
  go_wp2_with fail
  go_ret
  exact ⟨rfl, rfl⟩

theorem heap_setCell_at (w : World) (b o : Nat) (v : Value) (cur : Array Value) (t : TypeId) (fr : Nat × Nat) (h : w.heap[b]? = some (.cells cur t fr)) : (w.setCell ⟨b, o, none⟩ v).heap[b]? = some (.cells (cur.setIfInBounds o v) t fr) := by
  simp only [World.setCell, Array.getElem?_modify, if_true, h]
  rfl
theorem heap_setCells_at (b : Nat) (t : TypeId) (fr : Nat × Nat) : ∀ (vs : List Value) (o : Nat) (w : World) (cur : Array Value), w.heap[b]? = some (.cells cur t fr) → o + vs.length ≤ cur.size →
    ∃ cur', (w.setCells b o vs).heap[b]? = some (.cells cur' t fr) ∧ cur'.size = cur.size ∧ cur'.toList = cur.toList.take o ++ vs ++ cur.toList.drop (o + vs.length)
  | [], o, w, cur, h, _ => ⟨cur, h, rfl, by simp⟩
  | v :: r, o, w, cur, h, hl => by
    simp at hl
    obtain ⟨cur', h1, h2, h3⟩ := heap_setCells_at b t fr r (o + 1) (w.setCell ⟨b, o, none⟩ v) _ (heap_setCell_at w b o v cur t fr h) (by simp; omega)
    refine ⟨cur', h1, by simpa using h2, ?_⟩
    rw [h3]
    simp only [Array.toList_setIfInBounds]
    have ho : o < cur.toList.length := by simp; omega
    have hm : min o cur.size = o := by omega
    rw [List.take_set, List.drop_set_of_lt (by omega), List.take_succ_eq_append_getElem ho, List.set_append_right _ _ (by simp; omega)]
    simp [hm, Nat.add_comm, Nat.add_left_comm]
theorem grown_setCells (b : Nat) : ∀ (vs : List Value) (o : Nat) (w : World), w.grownBy (w.setCells b o vs) (some b)
  | [], _, _ => ⟨rfl, rfl, rfl, Nat.le_refl _, fun _ _ _ => rfl⟩
  | v :: r, o, w => by
    have h := grown_setCells b r (o + 1) (w.setCell ⟨b, o, none⟩ v)
    rw [World.setCells]
    refine ⟨h.os, h.tape, h.output, by have := h.size; simpa [World.setCell] using this, fun k hk hne => ?_⟩
    rw [h.block k (by simpa [World.setCell] using hk) hne]
    exact Below.heap_setCell _ _ _ _ (fun e => hne (by rw [e]))
/-- What a whole row's first cells hold, it owns. -/
theorem own_setCells {w : World} {base b cap n : Nat} {cur : Array Value} {e : TypeId} (hh : w.heap[b]? = some (.cells cur e (0, 0))) (hs : cur.size = cap) (hb : base ≤ b) (hm : cap ≤ maxLen) (vs : List Value) (hl : vs.length ≤ cap) (hn : n ≤ vs.length) :
    (w.setCells b 0 vs).ownsRow base e 1 (.slice (some ⟨b, 0, none⟩) n cap) n (vs.take n) := by
  obtain ⟨cur', h1, h2, h3⟩ := heap_setCells_at b e (0, 0) vs 0 w cur hh (by omega)
  refine ⟨by simp; omega, .inr ⟨b, cap, cur', rfl, hb, h1, by omega, hm, by omega, ?_⟩⟩
  rw [h3]
  simp [List.take_append_of_le_length hn]
theorem room_of_row {w : World} {b n : Nat} {cur : Array Value} {e : TypeId} (hh : w.heap[b]? = some (.cells cur e (0, 0))) (hn : n ≤ cur.size) : Room w b 0 n := fun j hj => by
  rw [Nat.zero_add]
  exact ⟨⟨cur[j], by rw [cell_of_row w b j cur e _ hh]; simp⟩, frozen_of_row w b j cur e hh⟩

theorem wv_get (l : List Int) (j : Nat) (h : j < l.length) : (wv l)[j]'(by rw [wv_len]; exact h) = .int .u64 l[j] := by simp [wv]
theorem reads_in {W : World} {b o : Nat} {l : List Int} {n : Nat} (h : Room W b o n) (hn : l.length ≤ n) : Reads (W.setCells b o (wv l)) b o l := fun j hj => by
  rw [World.cell?_setCells_in b (wv l) o W (fun i hi => by
    rw [wv_len] at hi
    obtain ⟨⟨u, hu⟩, _⟩ := h i (by omega)
    rw [hu]; rfl) j (by rw [wv_len]; exact hj)]
  exact congrArg some (wv_get l j hj)
/-- A nat that the call made: its words. -/
def NatO (w : World) (base : Nat) (v : Value) (xs : List Int) : Prop := w.ownsRow base 156 1 v xs.length (wv xs)
theorem wv_take (l : List Int) (n : Nat) : (wv l).take n = wv (l.take n) := by simp [wv]
theorem nat_cases {w : World} {base : Nat} {v : Value} {xs : List Int} (h : NatO w base v xs) : (v = .slice none 0 0 ∧ xs = []) ∨ ∃ b c cur, v = .slice (some ⟨b, 0, none⟩) xs.length c ∧ base ≤ b ∧ b < w.heap.size ∧ w.heap[b]? = some (.cells cur 156 (0, 0)) ∧ cur.size = c ∧ xs.length ≤ c ∧ c ≤ maxLen ∧ Reads w b 0 xs := by
  rcases h.2 with ⟨rfl, h0⟩ | ⟨g, cap, cur, rfl, hb, hh, h1, h2, h3, h4⟩
  · exact .inl ⟨rfl, List.eq_nil_of_length_eq_zero h0⟩
  · refine .inr ⟨g, cap, cur, rfl, hb, (Array.getElem?_eq_some_iff.1 hh).1, hh, by omega, h1, h2, fun j hj => ?_⟩
    rw [Nat.zero_add, cell_of_row w g j cur 156 _ hh]
    have e : (cur.toList.take (xs.length * 1))[j]? = (wv xs)[j]? := by rw [h4]
    rw [List.getElem?_take, if_pos (by omega)] at e
    simp [wv, hj] at e
    simpa using e
def NilIf (v : Value) (p : Prop) : Prop := p → v = .slice none 0 0
/-- The capacity of a slice is at most n. -/
def capLe (v : Value) (n : Nat) : Prop := ∃ A m c, v = .slice A m c ∧ c ≤ n
theorem natO_nil (w : World) (base : Nat) : NatO w base (.slice none 0 0) [] := World.ownsRow_nil _ _ _ _

set_option maxHeartbeats 1000000 in
/-- z = x*y + r, x itself written over; x is not empty. -/
theorem mulAddWW_own (base b c : Nat) (cur : Array Value) (xs : List Int) (y r : Int) (w : World) (hb : base ≤ b) (hbw : base ≤ w.heap.size) (hh : w.heap[b]? = some (.cells cur 156 (0, 0))) (hs : cur.size = c) (hl : xs.length ≤ c) (hc : c ≤ 549755813888) (h0 : 0 < xs.length)
    (hR : Reads w b 0 xs) (hx : Words xs) (hy0 : 0 < y) (hy : y < BW) (hr0 : 0 ≤ r) (hr : r < BW) :
    Calls Tryz.prog 151 #[.slice (some ⟨b, 0, none⟩) xs.length c, .slice (some ⟨b, 0, none⟩) xs.length c, .int .u64 y, .int .u64 r] w fun e w' =>
      ∃ v', e = .returned v' ∧ NatO w' base v' (nrm (mvL xs y r ++ [mvC xs y r])) ∧ w.grownBy w' (some b) ∧ capLe v' (max c (xs.length + 5)) := by
  have hx0 : ((xs.length : Int) == 0) = false := by rw [beq_eq_false_iff_ne]; omega
  have hy1 : ((y : Int) == 0) = false := by rw [beq_eq_false_iff_ne]; omega
  have HX := Lib.hid hx
  have HR := Lib.hid hR
  have HH := Lib.hid hh
  clear hx hR hh
  have HL : Hid ((mvL xs y r).length = xs.length) := mvL_len _ _ _
  have HN : Hid ((mvL xs y r ++ [mvC xs y r]).length = xs.length + 1) := by show _ = _; rw [List.length_append, mvL_len]; rfl
  -- where the words go: the old row, or a new one
  have main : ∀ (B C : Nat) (W : World) (k : Array Value), W.heap[B]? = some (.cells k 156 (0, 0)) → k.size = C → xs.length + 1 ≤ C → C ≤ 1099511627776 → C ≤ max c (xs.length + 5) → base ≤ B → Reads W b 0 xs → w.grownBy W (some b) → (B = b ∨ B = w.heap.size) →
      Calls Tryz.prog 171 #[.slice (some ⟨b, 0, none⟩) xs.length c, .int .i64 ((xs.length + 1 : Nat) : Int)] w (fun e w' => e = .returned (.slice (some ⟨B, 0, none⟩) (xs.length + 1) C) ∧ W = w') →
      Calls Tryz.prog 151 #[.slice (some ⟨b, 0, none⟩) xs.length c, .slice (some ⟨b, 0, none⟩) xs.length c, .int .u64 y, .int .u64 r] w fun e w' =>
        ∃ v', e = .returned v' ∧ NatO w' base v' (nrm (mvL xs y r ++ [mvC xs y r])) ∧ w.grownBy w' (some b) ∧ capLe v' (max c (xs.length + 5)) := by
    intro B C W k hW hk hC hC2 hCm hB hRW hg hBb hcall
    obtain ⟨⟨u, hu⟩, hf⟩ := (room_of_row hW (n := xs.length + 1) (by omega)) xs.length (by omega)
    rw [Nat.zero_add] at hu hf
    have hcell : (W.setCells B 0 (wv (mvL xs y r))).cell? ⟨B, xs.length, none⟩ = some u := by
      rw [World.cell?_setCells_out _ _ _ _ _ (fun _ _ => by simp [wv_len, HL.out])]
      exact hu
    have hfz : (W.setCells B 0 (wv (mvL xs y r))).frozen? ⟨B, xs.length, none⟩ = false := by rw [World.frozen?_setCells]; exact hf
    have hroom : Room W B 0 xs.length := room_of_row hW (by omega)
    have hst : (W.setCells B 0 (wv (mvL xs y r))).setCell ⟨B, xs.length, none⟩ (.int .u64 (mvC xs y r)) = W.setCells B 0 (wv (mvL xs y r ++ [mvC xs y r])) := by
      have := setCells_wv (w := W) (b := B) (o := 0) HL.out (mvC xs y r)
      rwa [Nat.zero_add] at this
    have hfin := own_setCells (n := (nrm (mvL xs y r ++ [mvC xs y r])).length) hW hk hB (by unfold maxLen; omega) (wv (mvL xs y r ++ [mvC xs y r])) (by rw [wv_len, HN.out]; omega) (by rw [wv_len]; exact nrm_len _)
    rw [wv_take, nrm_take] at hfin
    have hrd : Reads (W.setCells B 0 (wv (mvL xs y r ++ [mvC xs y r]))) B 0 (mvL xs y r ++ [mvC xs y r]) := reads_in (room_of_row hW (n := xs.length + 1) (by omega)) (by rw [HN.out]; omega)
    have hg2 := grown_setCells B (wv (mvL xs y r ++ [mvC xs y r])) 0 W
    have HST := Lib.hid hst; have HF := Lib.hid hfin; have HRD := Lib.hid hrd; have HRW := Lib.hid hRW; have HRO := Lib.hid hroom; have HCA := Lib.hid hcall; have HWH := Lib.hid hW; have HBB := Lib.hid hBb; have HG := Lib.hid hg; have HG2 := Lib.hid hg2; have HCM := Lib.hid hCm
    clear hCm hg2 hst hfin hrd hRW hroom hcall hW hBb hg hu hf hk
    go_enter Tryz.func151, Tryz.ntmps151
    go_wp2_with (first
      | (go_at_call 171; refine HCA.out.mono ?_; rintro e w' ⟨rfl, rfl⟩)
      | (go_at_call 172; refine (mulAddVWW_any B 0 C b 0 c xs y r _ HX.out (by omega) hy hr0 hr (by omega) HRW.out HRO.out (.inr (.inl (Nat.le_refl _)))).mono ?_; rintro e w' ⟨rfl, rfl⟩)
      | (go_at_call 154; rw [HST.out]; refine (norm_n B 0 C (xs.length + 1) (mvL xs y r ++ [mvC xs y r]) _ HN.out (by omega) (by omega) HRD.out).mono ?_; rintro e w' ⟨rfl, rfl⟩))
    go_ret
    exact ⟨_, rfl, HF.out, ⟨HG2.out.os.trans HG.out.os, HG2.out.tape.trans HG.out.tape, HG2.out.output.trans HG.out.output, Nat.le_trans HG.out.size HG2.out.size, fun i hi hne => by
      have hib : i ≠ b := fun e => hne (by rw [e])
      rw [HG2.out.block i (Nat.lt_of_lt_of_le hi HG.out.size) (by rcases HBB.out with e | e <;> (intro h; injection h with h; omega)), HG.out.block i hi hne]⟩, ⟨_, _, C, rfl, HCM.out⟩⟩
  by_cases hfit : xs.length + 1 ≤ c
  · exact main b c w cur HH.out hs hfit (by omega) (by omega) hb HR.out ⟨rfl, rfl, rfl, Nat.le_refl _, fun _ _ _ => rfl⟩ (.inl rfl) (make_fit b 0 xs.length c (xs.length + 1) w hfit (by omega))
  · refine main w.heap.size (xs.length + 1 + 4) (w.alloc (.cells (madeCells #[.int .u64 0] (xs.length + 1 + 4)) 156)) _ (heap_alloc_new w _) (size_madeCells _ _) (by omega) (by omega) (by omega) hbw (fun j hj => ?_) (World.grownBy_alloc w _ _) (.inr rfl) (make_new _ _ _ _ w (by omega) (by omega) (by omega))
    have hlt : b < w.heap.size := (Array.getElem?_eq_some_iff.1 HH.out).1
    rw [World.cell?_of_block (heap_alloc_old w _ hlt)]
    exact HR.out j hj

set_option maxHeartbeats 1000000 in
/-- The same from no number at all: z, and x = z, is empty. -/
theorem mulAddWW_none (y r : Int) (w : World) (hr0 : 0 ≤ r) :
    Calls Tryz.prog 151 #[.slice none 0 0, .slice none 0 0, .int .u64 y, .int .u64 r] w fun e w' =>
      ∃ v', e = .returned v' ∧ NatO w' w.heap.size v' (if r = 0 then [] else [r]) ∧ w.grownBy w' none ∧ capLe v' 1 ∧ NilIf v' (r = 0) := by
  by_cases h : r = 0
  · subst h
    go_enter Tryz.func151, Tryz.ntmps151
    go_wp2
    go_ret
    exact ⟨_, rfl, natO_nil _ _, ⟨rfl, rfl, rfl, Nat.le_refl _, fun _ _ _ => rfl⟩, ⟨_, _, _, rfl, by omega⟩, fun _ => rfl⟩
  · have hz : ((r : Int) == 0) = false := by rw [beq_eq_false_iff_ne]; exact h
    have hroom : Room (w.alloc (.cells (madeCells #[.int .u64 0] 1) 156)) w.heap.size 0 1 := room_of_row (heap_alloc_new w _) (by rw [size_madeCells]; omega)
    obtain ⟨⟨u, hu⟩, hf⟩ := hroom 0 (by omega)
    rw [Nat.zero_add] at hu hf
    have HH := Lib.hid h
    clear h hroom
    go_enter Tryz.func151, Tryz.ntmps151
    go_wp2_with (first
      | (go_at_call 171; refine (make_one none 0 _).mono ?_; rintro e w' ⟨rfl, rfl⟩)
      | go_in)
    go_ret
    refine ⟨_, rfl, ?_, ?_, ⟨_, _, _, rfl, by omega⟩, by intro h; first | exact absurd h HH.out | exact h.elim⟩
    · try rw [if_neg HH.out]
      exact ⟨by simp [wv], .inr ⟨w.heap.size, 1, _, rfl, Nat.le_refl _, heap_alloc_new w _, by simp, by unfold maxLen; omega, by simp [madeCells], by simp [madeCells, wv]⟩⟩
    · exact World.grownBy_alloc w _ none

/-- What z*y + r is, whatever z. -/
theorem mulAddWW_step (base : Nat) (v : Value) (xs : List Int) (m : Nat) (y r : Int) (w : World) (hO : NatO w base v xs) (hnil : xs = [] → v = .slice none 0 0) (hcap : capLe v m) (hm : m ≤ 549755813888) (hbw : base ≤ w.heap.size)
    (hx : Words xs) (hn : nrm xs = xs) (hy0 : 0 < y) (hy : y < BW) (hr0 : 0 ≤ r) (hr : r < BW) :
    Calls Tryz.prog 151 #[v, v, .int .u64 y, .int .u64 r] w fun e w' =>
      ∃ v' zs, e = .returned v' ∧ NatO w' base v' zs ∧ Words zs ∧ nrm zs = zs ∧ val zs = val xs * y + r ∧ zs.length ≤ xs.length + 1 ∧ (zs = [] → v' = .slice none 0 0) ∧ capLe v' (max m (xs.length + 5)) ∧ w.grownBy w' v.ownBlock := by
  rcases nat_cases hO with ⟨rfl, rfl⟩ | ⟨b, c, cur, rfl, hb, hbw', hh, hs, hl, hc, hR⟩
  · refine (mulAddWW_none y r w hr0).mono ?_
    rintro e w' ⟨v', rfl, hO', hg, hc', hn'⟩
    refine ⟨v', if r = 0 then [] else [r], rfl, ?_, ?_, ?_, ?_, ?_, ?_, ?_, ?_⟩
    · refine ⟨hO'.1, ?_⟩
      rcases hO'.2 with h | ⟨g, cap, cur, h1, h2, h3⟩
      · exact .inl h
      · exact .inr ⟨g, cap, cur, h1, by omega, h3⟩
    · split
      · intro z hz; simp at hz
      · intro z hz; simp at hz; subst hz; exact ⟨hr0, hr⟩
    · split <;> simp [nrm, *]
    · split <;> simp [val, *]
    · split <;> simp
    · intro h
      apply hn'
      split at h
      · assumption
      · simp at h
    · obtain ⟨A, k, c, e, h⟩ := hc'
      exact ⟨A, k, c, e, by omega⟩
    · exact hg
  · have h0 : 0 < xs.length := by
      rcases xs with _ | ⟨x, r⟩
      · have := hnil rfl
        simp at this
      · simp
    obtain ⟨A, k, c', e, hcm⟩ := hcap
    injection e with e1 e2 e3
    subst e3
    refine (mulAddWW_own base b c cur xs y r w hb hbw hh hs hl (by omega) h0 hR hx hy0 hy hr0 hr).mono ?_
    rintro e w' ⟨v', rfl, hO', hg, hc'⟩
    have hw2 : Words (mvL xs y r ++ [mvC xs y r]) := words_snoc (words_mv _ _ _) (mvC_rng xs y r hx (by omega) hy hr0 hr)
    have hv : val (nrm (mvL xs y r ++ [mvC xs y r])) = val xs * y + r := by
      have h := val_mv xs y r
      have h2 := val_snoc (mvL xs y r) (mvC xs y r)
      rw [mvL_len] at h2
      rw [val_nrm, h2, h]
    refine ⟨v', _, rfl, hO', words_nrm hw2, nrm_nrm _, hv, ?_, ?_, ?_, hg⟩
    · have := nrm_len (mvL xs y r ++ [mvC xs y r])
      rw [List.length_append, mvL_len] at this
      exact this
    · intro h
      rw [h] at hv
      have hp := val_pos xs hx hn h0
      have : 0 < val xs * y := Int.mul_pos hp hy0
      simp only [val] at hv
      omega
    · obtain ⟨A, k, c', e, h⟩ := hc'
      exact ⟨A, k, c', e, by omega⟩

end Go.Proofs.YtoofphhfealcaaaGreatDoor
