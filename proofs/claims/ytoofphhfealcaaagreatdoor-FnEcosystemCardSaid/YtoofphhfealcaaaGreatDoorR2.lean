/-
  WALKS: shifts of vectors of words by one bit; what a call has written in a part of a block.
-/
import Derived.Test.YtoofphhfealcaaaGreatDoorR1
import Derived.Test.YtoofphhfealcaaaGreatDoorC9
import Derived.Deep.RegionLaw
namespace Go.Proofs.YtoofphhfealcaaaGreatDoor
open Go.RowKit

/-- Of all that was there, the cells of one part of a block alone may have changed; they hold words now. -/
structure Seg (w w' : World) (b o : Nat) (l : List Int) : Prop where
  kp : Kp [b] w w'
  rds : Reads w' b o l
  out : ∀ p : Addr, p.block < w.heap.size → (p.block = b → p.spot = none → p.off < o ∨ o + l.length ≤ p.off) → w'.cell? p = w.cell? p
  row : ∀ (cur : Array Value) (t : TypeId), w.heap[b]? = some (.cells cur t (0, 0)) → ∃ cur', w'.heap[b]? = some (.cells cur' t (0, 0)) ∧ cur'.size = cur.size
  frz : ∀ p, w'.frozen? p = w.frozen? p
theorem seg_nil (w : World) (b o : Nat) : Seg w w b o [] := ⟨Kp.refl _ _, fun j hj => absurd hj (by simp), fun _ _ _ => rfl, fun cur t h => ⟨cur, h, rfl⟩, fun _ => rfl⟩
theorem seg_drewN {w w' : World} {b o : Nat} {l : List Int} (h : Seg w w' b o l) (n : Nat) : Seg w (w'.drewN n) b o l := ⟨h.kp.drewN n, h.rds, h.out, h.row, h.frz⟩
theorem seg_set {w w' : World} {b o : Nat} {l : List Int} (h : Seg w w' b o l) (k : Nat) (v : Int) (l2 : List Int) (o2 : Nat) (hk : o2 ≤ k ∧ k < o2 + l2.length) (ho : o2 ≤ o ∧ o + l.length ≤ o2 + l2.length)
    (hc : (w.cell? ⟨b, k, none⟩).isSome = true) (hg : ∀ j (hj : j < l2.length), if o2 + j = k then l2[j] = v else ∃ (_ : o ≤ o2 + j) (h2 : o2 + j - o < l.length), l2[j] = l[o2 + j - o]) : Seg w (w'.setCell ⟨b, k, none⟩ (.int .u64 v)) b o2 l2 := by
  obtain ⟨u0, hu0⟩ := Option.isSome_iff_exists.1 hc
  have hblk := World.block_lt_of_cell? w ⟨b, k, none⟩ hu0
  have hc' : ∃ u, w'.cell? ⟨b, k, none⟩ = some u := by
    by_cases hin : o ≤ k ∧ k < o + l.length
    · have := h.rds (k - o) (by omega)
      rw [show o + (k - o) = k by omega] at this
      exact ⟨_, this⟩
    · refine ⟨u0, ?_⟩
      rw [h.out ⟨b, k, none⟩ hblk (fun _ _ => by show k < o ∨ _ ≤ k; omega)]
      exact hu0
  obtain ⟨u, hu⟩ := hc'
  refine ⟨h.kp.setCell (by simp) _, fun j hj => ?_, fun p hp hpo => ?_, fun cur t hrow => ?_, fun p => (World.frozen?_setCell _ _ _ _).trans (h.frz p)⟩
  · have hgj := hg j hj
    by_cases e : o2 + j = k
    · rw [if_pos e] at hgj
      rw [e, World.cell?_setCell_same _ _ _ hu, hgj]
    · rw [if_neg e] at hgj
      obtain ⟨h1, h2, h3⟩ := hgj
      rw [World.cell?_setCell_other _ _ _ _ (by intro e2; simp at e2 <;> omega), h3]
      have := h.rds (o2 + j - o) h2
      rw [show o + (o2 + j - o) = o2 + j by omega] at this
      exact this
  · rw [World.cell?_setCell_other _ _ _ _ (by
      rintro rfl
      have := hpo rfl rfl
      simp at this
      omega)]
    refine h.out p hp (fun e1 e2 => ?_)
    have := hpo e1 e2
    omega
  · obtain ⟨cur', h1, h2⟩ := h.row cur t hrow
    exact ⟨_, heap_setCell_at w' b k _ cur' t (0, 0) h1, by simpa using h2⟩
/-- One word more behind those that are written. -/
theorem seg_snoc {w w' : World} {b o k : Nat} {l : List Int} (h : Seg w w' b o l) (hk : k = o + l.length) (hc : (w.cell? ⟨b, k, none⟩).isSome = true) (v : Int) : Seg w (w'.setCell ⟨b, k, none⟩ (.int .u64 v)) b o (l ++ [v]) := by
  subst hk
  refine seg_set h _ v _ o (by simp) (by simp) hc (fun j hj => ?_)
  split
  · rename_i e
    have : j = l.length := by omega
    subst this
    simp
  · simp at hj
    have hl : j < l.length := by omega
    refine ⟨by omega, by omega, ?_⟩
    rw [List.getElem_append_left hl]
    congr 1
    omega
/-- One word more ahead of those that are written. -/
theorem seg_cons {w w' : World} {b o : Nat} {l : List Int} (h : Seg w w' b (o + 1) l) (hc : (w.cell? ⟨b, o, none⟩).isSome = true) (v : Int) : Seg w (w'.setCell ⟨b, o, none⟩ (.int .u64 v)) b o (v :: l) := by
  refine seg_set h _ v _ o (by simp) (by simp; omega) hc (fun j hj => ?_)
  split
  · rename_i e
    have : j = 0 := by omega
    subst this
    rfl
  · simp at hj
    obtain ⟨j, rfl⟩ : ∃ i, j = i + 1 := ⟨j - 1, by omega⟩
    refine ⟨by omega, by omega, ?_⟩
    rw [List.getElem_cons_succ]
    congr 1
    omega
theorem seg_of_setCells (w : World) (b o : Nat) (l : List Int) (hZ : Room w b o l.length) : Seg w (w.setCells b o (wv l)) b o l := by
  refine ⟨⟨?_, ?_, ?_, ?_, ?_⟩, reads_in hZ (Nat.le_refl _), fun p hp hpo => ?_, fun cur t hrow => ?_, fun p => World.frozen?_setCells _ _ _ _ _⟩
  · exact (grown_setCells b (wv l) o w).os
  · exact (grown_setCells b (wv l) o w).tape
  · exact (grown_setCells b (wv l) o w).output
  · exact (grown_setCells b (wv l) o w).size
  · exact fun k hk hn => (grown_setCells b (wv l) o w).block k hk (by intro e; injection e with e; simp at hn; omega)
  · rw [World.cell?_setCells_out _ _ _ _ _ (fun e1 e2 => by rw [wv_len]; exact hpo e1 e2)]
  · by_cases hl : l.length = 0
    · have : l = [] := List.eq_nil_of_length_eq_zero hl
      subst this
      exact ⟨cur, hrow, rfl⟩
    · have hfit : o + (wv l).length ≤ cur.size := by
        rw [wv_len]
        obtain ⟨⟨u, hu⟩, _⟩ := hZ (l.length - 1) (by omega)
        rw [cell_of_row _ _ _ _ _ _ hrow] at hu
        have := (Array.getElem?_eq_some_iff.1 hu).1
        omega
      obtain ⟨cur', h1, h2, _⟩ := heap_setCells_at b t (0, 0) (wv l) o w cur hrow hfit
      exact ⟨cur', h1, h2⟩
/-- Cells of the same block beside the part, or of another block: as before. -/
theorem seg_reads {w w' : World} {b o : Nat} {l : List Int} (h : Seg w w' b o l) {xb xo : Nat} {xs : List Int} (hx : Reads w xb xo xs) (hc : xb ≠ b ∨ xo + xs.length ≤ o ∨ o + l.length ≤ xo) : Reads w' xb xo xs := fun j hj => by
  have := hx j hj
  rw [h.out ⟨xb, xo + j, none⟩ (World.block_lt_of_cell? w ⟨xb, xo + j, none⟩ this) (fun e _ => by
    have : xb = b := e
    show xo + j < o ∨ _ ≤ xo + j
    omega)]
  exact this
theorem room_some {w : World} {b o n : Nat} (h : Room w b o n) {k : Nat} (hk : o ≤ k ∧ k < o + n) : (w.cell? ⟨b, k, none⟩).isSome = true := by
  obtain ⟨⟨u, hu⟩, _⟩ := h (k - o) (by omega)
  rw [show o + (k - o) = k by omega] at hu
  rw [hu]; rfl

theorem mvL_get : ∀ (l : List Int) (y c : Int) (j : Nat) (h : j < l.length) (h2 : j < (mvL l y c).length), (mvL l y c)[j] = mLo l[j] y (mvC (l.take j) y c)
  | x :: r, y, c, 0, _, _ => rfl
  | x :: r, y, c, j + 1, h, h2 => by
    simp only [mvL, List.getElem_cons_succ, List.take_succ_cons, mvC]
    exact mvL_get r y _ j (by simpa using h) _
/-- The carry of a shift by one. -/
theorem mvC_two (l : List Int) (hl : Words l) (j : Nat) (h : j < l.length) : mvC (l.take (j + 1)) 2 0 = l[j] / 9223372036854775808 := by
  have hc : ∀ k, k ≤ l.length → 0 ≤ mvC (l.take k) 2 0 ∧ mvC (l.take k) 2 0 ≤ 1 := fun k => by
    induction k with
    | zero => intro _; simp [mvC]
    | succ k ih =>
      intro hk
      have ih := ih (by omega)
      rw [List.take_succ_eq_append_getElem (by omega), mvC_snoc]
      have hx := hl l[k] (List.getElem_mem _)
      unfold mHi
      unfold BW at *
      omega
  have := hc j (by omega)
  rw [List.take_succ_eq_append_getElem h, mvC_snoc]
  have hx := hl l[j] (List.getElem_mem h)
  unfold mHi
  unfold BW at *
  omega
theorem or_low (a b : Int) (ha0 : 0 ≤ a) (ha : a < BW) (he : a % 2 = 0) (hb : b = 0 ∨ b = 1) : bits .or .u64 a b = a + b := by
  obtain ⟨a, rfl⟩ := Int.eq_ofNat_of_zero_le ha0
  obtain ⟨b, rfl⟩ := Int.eq_ofNat_of_zero_le (show 0 ≤ b by omega)
  rw [bits_or_u64_nat a b (by unfold BW at ha; omega) (by omega)]
  have h1 : a = 2 ^ 1 * (a / 2) := by omega
  have h2 := Nat.two_pow_add_eq_or_of_lt (i := 1) (b := b) (by omega) (a / 2)
  rw [← h1] at h2
  rw [← h2]
  rfl
theorem or_high (a b : Int) (ha0 : 0 ≤ a) (ha : a < 9223372036854775808) (hb : b = 0 ∨ b = 9223372036854775808) : bits .or .u64 a b = a + b := by
  obtain ⟨a, rfl⟩ := Int.eq_ofNat_of_zero_le ha0
  obtain ⟨b, rfl⟩ := Int.eq_ofNat_of_zero_le (show 0 ≤ b by omega)
  rw [bits_or_u64_nat a b (by omega) (by omega)]
  have hb2 : b = 2 ^ 63 * (b / 9223372036854775808) := by omega
  have h2 := Nat.two_pow_add_eq_or_of_lt (i := 63) (b := a) (by omega) (b / 9223372036854775808)
  rw [← hb2] at h2
  rw [Nat.or_comm, ← h2]
  omega
end Go.Proofs.YtoofphhfealcaaaGreatDoor
