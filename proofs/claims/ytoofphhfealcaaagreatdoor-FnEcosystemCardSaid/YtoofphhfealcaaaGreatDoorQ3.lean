/-
  PLAIN LAWS: sums and differences of rows of words, multiples added, halves.
-/
import Derived.Test.YtoofphhfealcaaaGreatDoorC3
namespace Go.Proofs.YtoofphhfealcaaaGreatDoor
open Go.RowKit

theorem bw_pos : 0 < BW := by unfold BW; omega
theorem bwp_pos (n : Nat) : 0 < BW ^ n := Int.pow_pos bw_pos
theorem aLo_rng (x y c : Int) : 0 ≤ aLo x y c ∧ aLo x y c < BW := by unfold aLo BW; omega
theorem sLo_rng (x y c : Int) : 0 ≤ sLo x y c ∧ sLo x y c < BW := by unfold sLo BW; omega
theorem aHi_rng (x y c : Int) (hx0 : 0 ≤ x) (hx : x < BW) (hy0 : 0 ≤ y) (hy : y < BW) (hc0 : 0 ≤ c) (hc : c ≤ 1) : 0 ≤ aHi x y c ∧ aHi x y c ≤ 1 := by unfold aHi; unfold BW at *; omega
theorem sHi_rng (x y c : Int) : 0 ≤ sHi x y c ∧ sHi x y c ≤ 1 := by unfold sHi; split <;> omega
theorem aLoHi (x y c : Int) : aLo x y c + BW * aHi x y c = x + y + c := by unfold aLo aHi BW; omega
theorem sLoHi (x y c : Int) (hx0 : 0 ≤ x) (hx : x < BW) (hy0 : 0 ≤ y) (hy : y < BW) (hc0 : 0 ≤ c) (hc : c ≤ 1) : sLo x y c - BW * sHi x y c = x - y - c := by
  unfold sLo sHi
  unfold BW at *
  split <;> omega
theorem mLoHi (x y c : Int) : mLo x y c + BW * mHi x y c = x * y + c := by unfold mLo mHi; have := Int.emod_add_mul_ediv (x * y + c) BW; omega

/-- The sum of two rows, and its carry. -/
def avL : List Int → List Int → Int → List Int
  | x :: r, y :: s, c => aLo x y c :: avL r s (aHi x y c)
  | _, _, _ => []
def avC : List Int → List Int → Int → Int
  | x :: r, y :: s, c => avC r s (aHi x y c)
  | _, _, c => c
/-- The difference of two rows, and its borrow. -/
def svL : List Int → List Int → Int → List Int
  | x :: r, y :: s, c => sLo x y c :: svL r s (sHi x y c)
  | _, _, _ => []
def svC : List Int → List Int → Int → Int
  | x :: r, y :: s, c => svC r s (sHi x y c)
  | _, _, c => c
/-- A row and a multiple of another. -/
def amL : List Int → List Int → Int → Int → List Int
  | x :: r, y :: s, m, c => mLo y m (x + c) :: amL r s m (mHi y m (x + c))
  | _, _, _, _ => []
def amC : List Int → List Int → Int → Int → Int
  | x :: r, y :: s, m, c => amC r s m (mHi y m (x + c))
  | _, _, _, c => c
theorem avL_snoc : ∀ (l m : List Int) (x y c : Int), l.length = m.length → avL (l ++ [x]) (m ++ [y]) c = avL l m c ++ [aLo x y (avC l m c)]
  | [], [], _, _, _, _ => rfl
  | _ :: r, _ :: s, x, y, c, h => by simp only [List.cons_append, avL, avC]; rw [avL_snoc r s x y _ (by simpa using h)]
theorem avC_snoc : ∀ (l m : List Int) (x y c : Int), l.length = m.length → avC (l ++ [x]) (m ++ [y]) c = aHi x y (avC l m c)
  | [], [], _, _, _, _ => rfl
  | _ :: r, _ :: s, x, y, c, h => by simp only [List.cons_append, avC]; rw [avC_snoc r s x y _ (by simpa using h)]
theorem avL_len : ∀ (l m : List Int) (c : Int), l.length = m.length → (avL l m c).length = l.length
  | [], [], _, _ => rfl
  | _ :: r, _ :: s, c, h => by simp [avL, avL_len r s _ (by simpa using h)]
theorem avC_rng : ∀ (l m : List Int) (c : Int), Words l → Words m → 0 ≤ c → c ≤ 1 → 0 ≤ avC l m c ∧ avC l m c ≤ 1
  | [], _, c, _, _, h0, h1 => by simp [avC, h0, h1]
  | _ :: _, [], c, _, _, h0, h1 => by simp [avC, h0, h1]
  | x :: r, y :: s, c, hl, hm, h0, h1 => by
    have hx := hl x (by simp)
    have hy := hm y (by simp)
    have h := aHi_rng x y c hx.1 hx.2 hy.1 hy.2 h0 h1
    exact avC_rng r s _ (fun z hz => hl z (by simp [hz])) (fun z hz => hm z (by simp [hz])) h.1 h.2
theorem words_av : ∀ (l m : List Int) (c : Int), Words (avL l m c)
  | [], _, _ => by intro z hz; simp [avL] at hz
  | _ :: _, [], _ => by intro z hz; simp [avL] at hz
  | x :: r, y :: s, c => by
    intro z hz
    simp only [avL, List.mem_cons] at hz
    rcases hz with rfl | hz
    · exact aLo_rng _ _ _
    · exact words_av r s _ z hz
theorem val_av : ∀ (l m : List Int) (c : Int), l.length = m.length → val (avL l m c) + BW ^ l.length * avC l m c = val l + val m + c
  | [], [], c, _ => by simp [val, avL, avC]
  | x :: r, y :: s, c, h => by
    have ih := val_av r s (aHi x y c) (by simpa using h)
    have hh := aLoHi x y c
    simp only [val, avL, avC, List.length_cons, Int.pow_succ]
    grind
theorem svL_snoc : ∀ (l m : List Int) (x y c : Int), l.length = m.length → svL (l ++ [x]) (m ++ [y]) c = svL l m c ++ [sLo x y (svC l m c)]
  | [], [], _, _, _, _ => rfl
  | _ :: r, _ :: s, x, y, c, h => by simp only [List.cons_append, svL, svC]; rw [svL_snoc r s x y _ (by simpa using h)]
theorem svC_snoc : ∀ (l m : List Int) (x y c : Int), l.length = m.length → svC (l ++ [x]) (m ++ [y]) c = sHi x y (svC l m c)
  | [], [], _, _, _, _ => rfl
  | _ :: r, _ :: s, x, y, c, h => by simp only [List.cons_append, svC]; rw [svC_snoc r s x y _ (by simpa using h)]
theorem svL_len : ∀ (l m : List Int) (c : Int), l.length = m.length → (svL l m c).length = l.length
  | [], [], _, _ => rfl
  | _ :: r, _ :: s, c, h => by simp [svL, svL_len r s _ (by simpa using h)]
theorem svC_rng : ∀ (l m : List Int) (c : Int), 0 ≤ c → c ≤ 1 → 0 ≤ svC l m c ∧ svC l m c ≤ 1
  | [], _, c, h0, h1 => by simp [svC, h0, h1]
  | _ :: _, [], c, h0, h1 => by simp [svC, h0, h1]
  | x :: r, y :: s, c, h0, h1 => by
    have h := sHi_rng x y c
    exact svC_rng r s _ h.1 h.2
theorem words_sv : ∀ (l m : List Int) (c : Int), Words (svL l m c)
  | [], _, _ => by intro z hz; simp [svL] at hz
  | _ :: _, [], _ => by intro z hz; simp [svL] at hz
  | x :: r, y :: s, c => by
    intro z hz
    simp only [svL, List.mem_cons] at hz
    rcases hz with rfl | hz
    · exact sLo_rng _ _ _
    · exact words_sv r s _ z hz
theorem val_sv : ∀ (l m : List Int) (c : Int), Words l → Words m → 0 ≤ c → c ≤ 1 → l.length = m.length → val (svL l m c) = val l - val m - c + BW ^ l.length * svC l m c
  | [], [], c, _, _, _, _, _ => by simp [val, svL, svC]; omega
  | x :: r, y :: s, c, hl, hm, h0, h1, h => by
    have hx := hl x (by simp)
    have hy := hm y (by simp)
    have hc := sHi_rng x y c
    have ih := val_sv r s (sHi x y c) (fun z hz => hl z (by simp [hz])) (fun z hz => hm z (by simp [hz])) hc.1 hc.2 (by simpa using h)
    have hh := sLoHi x y c hx.1 hx.2 hy.1 hy.2 h0 h1
    simp only [val, svL, svC, List.length_cons, Int.pow_succ]
    grind
theorem amL_snoc : ∀ (l k : List Int) (x y m c : Int), l.length = k.length → amL (l ++ [x]) (k ++ [y]) m c = amL l k m c ++ [mLo y m (x + amC l k m c)]
  | [], [], _, _, _, _, _ => rfl
  | _ :: r, _ :: s, x, y, m, c, h => by simp only [List.cons_append, amL, amC]; rw [amL_snoc r s x y m _ (by simpa using h)]
theorem amC_snoc : ∀ (l k : List Int) (x y m c : Int), l.length = k.length → amC (l ++ [x]) (k ++ [y]) m c = mHi y m (x + amC l k m c)
  | [], [], _, _, _, _, _ => rfl
  | _ :: r, _ :: s, x, y, m, c, h => by simp only [List.cons_append, amC]; rw [amC_snoc r s x y m _ (by simpa using h)]
theorem amL_len : ∀ (l k : List Int) (m c : Int), l.length = k.length → (amL l k m c).length = l.length
  | [], [], _, _, _ => rfl
  | _ :: r, _ :: s, m, c, h => by simp [amL, amL_len r s m _ (by simpa using h)]
theorem mHi_rng2 (x y c : Int) (hx0 : 0 ≤ x) (hx : x < BW) (hy0 : 0 ≤ y) (hy : y < BW) (hc0 : 0 ≤ c) (hc : c ≤ 2 * BW - 2) : 0 ≤ mHi x y c ∧ mHi x y c < BW := by
  have h1 : 0 ≤ x * y := Int.mul_nonneg hx0 hy0
  have h2 : x * y ≤ (BW - 1) * (BW - 1) := Int.mul_le_mul (by omega) (by omega) hy0 (by unfold BW; omega)
  unfold mHi
  unfold BW at *
  omega
theorem amC_rng : ∀ (l k : List Int) (m c : Int), Words l → Words k → 0 ≤ m → m < BW → 0 ≤ c → c < BW → 0 ≤ amC l k m c ∧ amC l k m c < BW
  | [], _, _, c, _, _, _, _, h0, h1 => by simp [amC, h0, h1]
  | _ :: _, [], _, c, _, _, _, _, h0, h1 => by simp [amC, h0, h1]
  | x :: r, y :: s, m, c, hl, hk, hm0, hm, h0, h1 => by
    have hx := hl x (by simp)
    have hy := hk y (by simp)
    have h := mHi_rng2 y m (x + c) hy.1 hy.2 hm0 hm (by omega) (by omega)
    exact amC_rng r s m _ (fun z hz => hl z (by simp [hz])) (fun z hz => hk z (by simp [hz])) hm0 hm h.1 h.2
theorem words_am : ∀ (l k : List Int) (m c : Int), Words (amL l k m c)
  | [], _, _, _ => by intro z hz; simp [amL] at hz
  | _ :: _, [], _, _ => by intro z hz; simp [amL] at hz
  | x :: r, y :: s, m, c => by
    intro z hz
    simp only [amL, List.mem_cons] at hz
    rcases hz with rfl | hz
    · exact mLo_rng _ _ _
    · exact words_am r s m _ z hz
theorem val_am : ∀ (l k : List Int) (m c : Int), l.length = k.length → val (amL l k m c) + BW ^ l.length * amC l k m c = val l + val k * m + c
  | [], [], m, c, _ => by simp [val, amL, amC]
  | x :: r, y :: s, m, c, h => by
    have ih := val_am r s m (mHi y m (x + c)) (by simpa using h)
    have hh := mLoHi y m (x + c)
    simp only [val, amL, amC, List.length_cons, Int.pow_succ]
    grind
/-- The words of one step: what mulAddWWW and Add answer. -/
theorem amStep (y m x c : Int) (hy0 : 0 ≤ y) (hy : y < BW) (hm0 : 0 ≤ m) (hm : m < BW) (hx0 : 0 ≤ x) (hx : x < BW) (hc0 : 0 ≤ c) (hc : c < BW) :
    aLo (mLo y m x) c 0 = mLo y m (x + c) ∧ IntKind.u64.wrap (aHi (mLo y m x) c 0 + mHi y m x) = mHi y m (x + c) := by
  have h1 : 0 ≤ y * m := Int.mul_nonneg hy0 hm0
  have h2 : y * m ≤ (BW - 1) * (BW - 1) := Int.mul_le_mul (by omega) (by omega) hm0 (by unfold BW; omega)
  rw [IntKind.wrap_u64]
  unfold mHi mLo aHi aLo
  unfold BW at *
  omega
theorem val_lt : ∀ l : List Int, Words l → val l < BW ^ l.length
  | [], _ => by simp [val]
  | x :: r, h => by
    have ih := val_lt r (fun y hy => h y (by simp [hy]))
    have hx := h x (by simp)
    have hm : BW * (val r + 1) ≤ BW * BW ^ r.length := Int.mul_le_mul_of_nonneg_left (by omega) (by have := bw_pos; omega)
    rw [Int.mul_add, Int.mul_one] at hm
    rw [val, List.length_cons, Int.pow_succ, Int.mul_comm (BW ^ r.length) BW]
    omega
theorem val_append : ∀ (l m : List Int), val (l ++ m) = val l + BW ^ l.length * val m
  | [], m => by simp [val]
  | x :: r, m => by
    have ih := val_append r m
    simp only [List.cons_append, val, List.length_cons, Int.pow_succ]
    grind
theorem val_zeros : ∀ n : Nat, val (List.replicate n 0) = 0
  | 0 => rfl
  | n + 1 => by simp [List.replicate_succ, val, val_zeros n]
theorem words_append {l m : List Int} (h : Words l) (k : Words m) : Words (l ++ m) := fun z hz => by
  rw [List.mem_append] at hz
  rcases hz with hz | hz
  · exact h z hz
  · exact k z hz
theorem words_zeros (n : Nat) : Words (List.replicate n 0) := fun z hz => by
  have := (List.mem_replicate.1 hz).2
  subst this
  exact ⟨by omega, bw_pos⟩
/-- The half of a row, rounded down. -/
def hvL : List Int → List Int
  | [] => []
  | [x] => [x / 2]
  | x :: y :: r => (x / 2 + y % 2 * 9223372036854775808) :: hvL (y :: r)
theorem hvL_len : ∀ l : List Int, (hvL l).length = l.length
  | [] => rfl
  | [_] => rfl
  | x :: y :: r => by
    have := hvL_len (y :: r)
    simp [hvL] at this ⊢
    exact this
theorem words_hv : ∀ l : List Int, Words l → Words (hvL l)
  | [], _ => by intro z hz; simp [hvL] at hz
  | [x], h => by
    intro z hz
    have hx := h x (by simp)
    simp only [hvL, List.mem_singleton] at hz
    subst hz
    unfold BW at *
    omega
  | x :: y :: r, h => by
    intro z hz
    have hx := h x (by simp)
    simp only [hvL, List.mem_cons] at hz
    rcases hz with rfl | hz
    · unfold BW at *
      omega
    · exact words_hv (y :: r) (fun z hz => h z (List.mem_cons_of_mem _ hz)) z hz
theorem val_hv : ∀ l : List Int, Words l → val l = 2 * val (hvL l) + (match l with | [] => 0 | x :: _ => x % 2)
  | [], _ => rfl
  | [x], _ => by simp only [hvL, val]; omega
  | x :: y :: r, h => by
    have ih := val_hv (y :: r) (fun z hz => h z (List.mem_cons_of_mem _ hz))
    show x + BW * val (y :: r) = 2 * ((x / 2 + y % 2 * 9223372036854775808) + BW * val (hvL (y :: r))) + x % 2
    rw [ih]
    show x + BW * (2 * val (hvL (y :: r)) + y % 2) = _
    unfold BW
    omega
end Go.Proofs.YtoofphhfealcaaaGreatDoor
