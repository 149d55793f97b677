/-
  PLAIN: the table of divisors: what its making has in hand.
  WALKS: the square of a number of sixteen words (sqr); the table of divisors (divisors).
  WALK: the table of divisors (divisors).
  WALK: the table of divisors (divisors).
  WALKS: String and Text, with the size of what they answer.
  WALKS: free of the stack; what itoa has in hand.
  WALK: a number of up to 63 words as a text (itoa).
  PROVED: String answers a text for every number of up to 1200 bytes.
-/
import Derived.Test.YtoofphhfealcaaaGreatDoorR15
import Derived.Test.YtoofphhfealcaaaGreatDoorR23
import Derived.Test.YtoofphhfealcaaaGreatDoorK7
import Derived.Test.YtoofphhfealcaaaGreatDoorN7
namespace Go.Proofs.YtoofphhfealcaaaGreatDoor
open Go.RowKit
theorem ent_ok {i : Nat} (hi : i < 3) {V : List Int} (hw : Words V) (hn : nrm V = V) (hv : val V = ten (dN i)) : V.length = wN i ∧ DvOK V (wN i) := by
  have : i = 0 ∨ i = 1 ∨ i = 2 := by omega
  rcases this with rfl | rfl | rfl
  · exact dv154 hw hn hv
  · exact dv308 hw hn hv
  · exact dv616 hw hn hv
theorem bl_eq {ys : List Int} {B : Nat} (hw : Words ys) (hn : nrm ys = ys) (h0 : 0 < ys.length) (hB : 0 < B) (h1 : (2 : Int) ^ (B - 1) ≤ val ys) (h2 : val ys < 2 ^ B) : blOf ys = B := by
  obtain ⟨a1, a2, _⟩ := bl_bounds hw hn h0
  have hb0 : blOf ys ≠ 0 := fun e => by
    rw [e] at a2
    have := val_pos ys hw hn h0
    simp at a2
    omega
  rcases Nat.lt_trichotomy (blOf ys) B with h | h | h
  · have := two_mono (show blOf ys ≤ B - 1 by omega)
    omega
  · exact h
  · have := two_mono (show B ≤ blOf ys - 1 by omega)
    omega
theorem bl_ent {i : Nat} (hi : i < 3) {V : List Int} (hw : Words V) (hn : nrm V = V) (hv : val V = ten (dN i)) : blOf V = bN i := by
  have hl := (ent_ok hi hw hn hv).1
  have : i = 0 ∨ i = 1 ∨ i = 2 := by omega
  rcases this with rfl | rfl | rfl
  · exact bl_eq hw hn (by rw [hl]; decide) (by decide) (by rw [hv]; unfold ten; decide +kernel) (by rw [hv]; unfold ten; decide +kernel)
  · exact bl_eq hw hn (by rw [hl]; decide) (by decide) (by rw [hv]; unfold ten; decide +kernel) (by rw [hv]; unfold ten; decide +kernel)
  · exact bl_eq hw hn (by rw [hl]; decide) (by decide) (by rw [hv]; unfold ten; decide +kernel) (by rw [hv]; unfold ten; decide +kernel)
/-- A row of the table. -/
structure EntE (w : World) (tb j bj : Nat) : Prop where
  ex : ∃ c V, w.cell? ⟨tb, j * 3, none⟩ = some (.slice (some ⟨bj, 0, none⟩) (wN j) c) ∧ NatB w bj c V ∧ Words V ∧ nrm V = V ∧ val V = ten (dN j) ∧ V.length = wN j ∧ c ≤ 1048576
  bits : w.cell? ⟨tb, j * 3 + 1, none⟩ = some (.int .i64 (bN j))
  digs : w.cell? ⟨tb, j * 3 + 2, none⟩ = some (.int .i64 (dN j))
theorem entE_kp {w w' : World} {L : List Nat} {tb j bj : Nat} (h : EntE w tb j bj) (hk : Kp L w w') (h1 : tb ∉ L) (h2 : bj ∉ L) : EntE w' tb j bj := by
  obtain ⟨c, V, a1, a2, a3⟩ := h.ex
  exact ⟨⟨c, V, hk.cell a1 h1, natB_kp a2 hk h2, a3⟩, hk.cell h.bits h1, hk.cell h.digs h1⟩
theorem entE_set {w : World} {tb j bj o : Nat} {v : Value} (h : EntE w tb j bj) (ho : o < j * 3 ∨ j * 3 + 3 ≤ o) (hne : bj ≠ tb) : EntE (w.setCell ⟨tb, o, none⟩ v) tb j bj := by
  obtain ⟨c, V, a1, a2, a3⟩ := h.ex
  refine ⟨⟨c, V, ?_, natB_of a2 (Below.heap_setCell _ _ _ _ (by simpa using hne)), a3⟩, ?_, ?_⟩
  · rw [World.cell?_setCell_other _ _ _ _ (by intro e; simp at e <;> omega)]; exact a1
  · rw [World.cell?_setCell_other _ _ _ _ (by intro e; simp at e <;> omega)]; exact h.bits
  · rw [World.cell?_setCell_other _ _ _ _ (by intro e; simp at e <;> omega)]; exact h.digs
/-- The table in the making: rows below i stand, rows from z on are as made. -/
structure DvB (w wr : World) (sb tb k : Nat) (T : TypeId) (bb : Nat → Nat) (l : List Nat) (i z : Nat) : Prop where
  k3 : k ≤ 3
  ent : ∀ j, j < i → EntE wr tb j (bb j)
  zero : ∀ j, z ≤ j → j < k → wr.cell? ⟨tb, j * 3, none⟩ = some (.slice none 0 0) ∧ wr.cell? ⟨tb, j * 3 + 1, none⟩ = some (.int .i64 0) ∧ wr.cell? ⟨tb, j * 3 + 2, none⟩ = some (.int .i64 0)
  row : ∃ cur, wr.heap[tb]? = some (.cells cur T (0, 0)) ∧ cur.size = k * 3
  stk : StkAt wr sb l 0
  kp : Kp [sb] w wr
  sbw : sb < w.heap.size
  lnew : ∀ y ∈ l, w.heap.size ≤ y
  tnew : w.heap.size ≤ tb
  bnew : ∀ j, j < i → w.heap.size ≤ bb j ∧ bb j ≠ tb ∧ bb j ∉ l
  tl : tb ∉ l
theorem dvB_lt {w wr : World} {sb tb k : Nat} {T : TypeId} {bb : Nat → Nat} {l : List Nat} {i z : Nat} (h : DvB w wr sb tb k T bb l i z) : tb < wr.heap.size := by
  obtain ⟨cur, h1, _⟩ := h.row
  exact (Array.getElem?_eq_some_iff.1 h1).1
theorem dvB_blt {w wr : World} {sb tb k : Nat} {T : TypeId} {bb : Nat → Nat} {l : List Nat} {i z : Nat} (h : DvB w wr sb tb k T bb l i z) {j : Nat} (hj : j < i) : bb j < wr.heap.size := by
  obtain ⟨c, V, _, a2, _⟩ := (h.ent j hj).ex
  exact natB_lt a2
theorem dvB_cell {w wr : World} {sb tb k : Nat} {T : TypeId} {bb : Nat → Nat} {l : List Nat} {i z : Nat} (h : DvB w wr sb tb k T bb l i z) (o : Nat) : wr.frozen? ⟨tb, o, none⟩ = false ∧ (o < k * 3 → ∃ u, wr.cell? ⟨tb, o, none⟩ = some u) := by
  obtain ⟨cur, h1, h2⟩ := h.row
  refine ⟨frozen_of_row _ _ _ _ _ h1, fun ho => ⟨cur[o], ?_⟩⟩
  rw [cell_of_row _ _ _ _ _ _ h1]
  simp
theorem dvB_stk {w wr w2 : World} {sb tb k : Nat} {T : TypeId} {bb : Nat → Nat} {l l2 L : List Nat} {i z : Nat} (h : DvB w wr sb tb k T bb l i z) (hk : Kp L wr w2) (ht : tb ∉ L) (hb : ∀ j, j < i → bb j ∉ L) (hL : ∀ y ∈ L, y = sb ∨ w.heap.size ≤ y)
    (hs : StkAt w2 sb l2 0) (hl : ∀ y ∈ l2, y ∈ l ∨ wr.heap.size ≤ y) : DvB w w2 sb tb k T bb l2 i z := by
  have htl := dvB_lt h
  have hsz := h.kp.size
  refine ⟨h.k3, fun j hj => entE_kp (h.ent j hj) hk ht (hb j hj), fun j h1 h2 => ?_, ?_, hs, kp_step h.kp hk (fun y hy => ?_), h.sbw, fun y hy => ?_, h.tnew, fun j hj => ?_, fun hm => ?_⟩
  · obtain ⟨a, b, c⟩ := h.zero j h1 h2
    exact ⟨hk.cell a ht, hk.cell b ht, hk.cell c ht⟩
  · obtain ⟨cur, a, b⟩ := h.row
    exact ⟨cur, by rw [hk.block tb htl ht]; exact a, b⟩
  · rcases hL y hy with rfl | h1
    · exact .inl (by simp)
    · exact .inr h1
  · rcases hl y hy with h1 | h1
    · exact h.lnew y h1
    · omega
  · obtain ⟨b1, b2, b3⟩ := h.bnew j hj
    refine ⟨b1, b2, fun hm => ?_⟩
    rcases hl _ hm with h1 | h1
    · exact b3 h1
    · have := dvB_blt h hj
      omega
  · rcases hl _ hm with h1 | h1
    · exact h.tl h1
    · omega
theorem dvB_kp {w wr w2 : World} {sb tb k : Nat} {T : TypeId} {bb : Nat → Nat} {l L : List Nat} {i z : Nat} (h : DvB w wr sb tb k T bb l i z) (hk : Kp L wr w2) (ht : tb ∉ L) (hb : ∀ j, j < i → bb j ∉ L) (hs : ∀ y ∈ sb :: l, y ∉ L) (hL : ∀ y ∈ L, w.heap.size ≤ y) : DvB w w2 sb tb k T bb l i z :=
  dvB_stk h hk ht hb (fun y hy => .inr (hL y hy)) (stk_kp h.stk hk hs) (fun _ hy => .inl hy)
theorem dvB_new {w wr w2 : World} {sb tb k : Nat} {T : TypeId} {bb : Nat → Nat} {l : List Nat} {i z : Nat} (h : DvB w wr sb tb k T bb l i z) (hk : Kp [] wr w2) : DvB w w2 sb tb k T bb l i z :=
  dvB_kp h hk (by simp) (fun _ _ => by simp) (fun _ _ => by simp) (fun y hy => by simp at hy)
theorem dvB_set {w wr : World} {sb tb k : Nat} {T : TypeId} {bb : Nat → Nat} {l : List Nat} {i z : Nat} (h : DvB w wr sb tb k T bb l i z) {o : Nat} (v : Value) (h1 : i * 3 ≤ o) (h2 : o < z * 3) : DvB w (wr.setCell ⟨tb, o, none⟩ v) sb tb k T bb l i z := by
  have hne : sb ≠ tb := by have := h.sbw; have := h.tnew; omega
  refine ⟨h.k3, fun j hj => entE_set (h.ent j hj) (.inr (by omega)) (h.bnew j hj).2.1, fun j h3 h4 => ?_, ?_, stk_kp h.stk ((Kp.refl [tb] wr).setCell (by simp) v) (fun y hy => ?_), ?_, h.sbw, h.lnew, h.tnew, h.bnew, h.tl⟩
  · obtain ⟨a, b, c⟩ := h.zero j h3 h4
    refine ⟨?_, ?_, ?_⟩ <;> (rw [World.cell?_setCell_other _ _ _ _ (by intro e; simp at e <;> omega)]; assumption)
  · obtain ⟨cur, a, b⟩ := h.row
    exact ⟨_, heap_setCell_at wr tb o v cur T (0, 0) a, by simpa using b⟩
  · simp only [List.mem_cons, List.mem_nil_iff, or_false] at hy ⊢
    rintro rfl
    rcases hy with hy | hy
    · exact hne hy.symm
    · exact h.tl hy
  · refine kp_step h.kp ((Kp.refl [tb] wr).setCell (by simp) v) (fun y hy => ?_)
    obtain rfl : y = tb := by simpa using hy
    exact .inr h.tnew
/-- The row under way: its number, so far. -/
structure DvR (w wr : World) (sb tb k : Nat) (T : TypeId) (bb : Nat → Nat) (l : List Nat) (i vb vc d : Nat) (V : List Int) : Prop where
  b : DvB w wr sb tb k T bb l i (i + 1)
  ik : i < k
  c0 : wr.cell? ⟨tb, i * 3, none⟩ = some (.slice (some ⟨vb, 0, none⟩) V.length vc)
  c1 : wr.cell? ⟨tb, i * 3 + 1, none⟩ = some (.int .i64 0)
  c2 : wr.cell? ⟨tb, i * 3 + 2, none⟩ = some (.int .i64 d)
  nb : NatB wr vb vc V
  words : Words V
  nrm : nrm V = V
  v : val V = ten d
  big : vc ≤ 1048576
  vnew : w.heap.size ≤ vb
  vt : vb ≠ tb
  vl : vb ∉ l
  vbb : ∀ j, j < i → bb j ≠ vb
theorem dvR_kp {w wr w2 : World} {sb tb k : Nat} {T : TypeId} {bb : Nat → Nat} {l L : List Nat} {i vb vc d : Nat} {V : List Int} (h : DvR w wr sb tb k T bb l i vb vc d V) (hk : Kp L wr w2) (ht : tb ∉ L) (hv : vb ∉ L) (hb : ∀ j, j < i → bb j ∉ L) (hs : ∀ y ∈ sb :: l, y ∉ L) (hL : ∀ y ∈ L, w.heap.size ≤ y) : DvR w w2 sb tb k T bb l i vb vc d V :=
  ⟨dvB_kp h.b hk ht hb hs hL, h.ik, hk.cell h.c0 ht, hk.cell h.c1 ht, hk.cell h.c2 ht, natB_kp h.nb hk hv, h.words, h.nrm, h.v, h.big, h.vnew, h.vt, h.vl, h.vbb⟩
theorem dvR_new {w wr w2 : World} {sb tb k : Nat} {T : TypeId} {bb : Nat → Nat} {l : List Nat} {i vb vc d : Nat} {V : List Int} (h : DvR w wr sb tb k T bb l i vb vc d V) (hk : Kp [] wr w2) : DvR w w2 sb tb k T bb l i vb vc d V :=
  dvR_kp h hk (by simp) (by simp) (fun _ _ => by simp) (fun _ _ => by simp) (fun y hy => by simp at hy)
/-- How many words a power of ten of the row has. -/
def OkD (i d : Nat) : Prop := (BW : Int) ^ (wN i - 1) ≤ ten d ∧ ten d < BW ^ wN i
theorem okD_all {i d : Nat} (hi : i < 3) (h1 : (if i = 0 then 152 else dN i) ≤ d) (h2 : d ≤ dN i) : OkD i d := by
  have : i = 0 ∨ i = 1 ∨ i = 2 := by omega
  unfold OkD
  rcases this with rfl | rfl | rfl
  · have a := ten_mono h1
    have b := ten_mono h2
    have c1 : (BW : Int) ^ (wN 0 - 1) ≤ ten 152 := by unfold BW ten; decide +kernel
    have c2 : ten (dN 0) < (BW : Int) ^ wN 0 := by unfold BW ten; decide +kernel
    simp only [if_true] at a
    generalize ten (dN 0) = A at *
    generalize (BW : Int) ^ (wN 0 - 1) = B at *
    generalize (BW : Int) ^ wN 0 = C at *
    omega
  · obtain rfl : d = dN 1 := by simp at h1; omega
    unfold BW ten; decide +kernel
  · obtain rfl : d = dN 2 := by simp at h1; omega
    unfold BW ten; decide +kernel
theorem no_more {i : Nat} (hi : i < 3) : (BW : Int) ^ wN i ≤ ten (dN i + 1) := by
  have : i = 0 ∨ i = 1 ∨ i = 2 := by omega
  rcases this with rfl | rfl | rfl <;> (unfold BW ten; decide +kernel)
theorem wN_pos {i : Nat} : 8 ≤ wN i ∧ wN i ≤ 32 := by
  rcases i with _ | _ | i <;> simp [wN]
theorem nrm_of_ge {L : List Int} {n : Nat} (hw : Words L) (hl : L.length = n + 1) (hv : (BW : Int) ^ n ≤ val L) : nrm L = L := by
  have h1 := val_lt _ (words_nrm hw)
  rw [val_nrm] at h1
  have h2 := nrm_len L
  have h3 : (nrm L).length = L.length := by
    refine Classical.byContradiction fun hc => ?_
    have := bwp_mono (show (nrm L).length ≤ n by omega)
    omega
  have h4 := nrm_take L
  rw [h3, List.take_length] at h4
  exact h4.symm
/-- Ten times the number: the carry tells whether it still fits. -/
theorem mul_ten {i d : Nat} {L : List Int} (hi : i < 3) (h1 : (if i = 0 then 152 else dN i) ≤ d) (h2 : d ≤ dN i) (hw : Words L) (hl : L.length = wN i) (hv : val L = ten d) :
    (d < dN i ∧ mvC L 10 0 = 0 ∧ val (mvL L 10 0) = ten (d + 1) ∧ nrm (mvL L 10 0) = mvL L 10 0) ∨ (d = dN i ∧ mvC L 10 0 ≠ 0) := by
  have hm := val_mv L 10 0
  rw [hl, hv, Int.add_zero, ← ten_succ] at hm
  have hc := mvC_rng L 10 0 hw (by omega) (by unfold BW; omega) (by omega) bw_pos
  have hmw := words_mv L 10 0
  have hml := mvL_len L 10 0
  have hlt := val_lt _ hmw
  rw [hml, hl] at hlt
  have hnn := val_nonneg _ hmw
  have hw8 := @wN_pos i
  rcases Nat.lt_or_ge d (dN i) with hd | hd
  · have ho := okD_all hi (show _ ≤ d + 1 by omega) (by omega)
    have hc0 : mvC L 10 0 = 0 := by
      refine Classical.byContradiction fun hne => ?_
      have : (BW : Int) ^ wN i * 1 ≤ BW ^ wN i * mvC L 10 0 := Int.mul_le_mul_of_nonneg_left (by omega) (by have := bwp_pos (wN i); omega)
      have h3 := ho.2
      generalize (BW : Int) ^ wN i = A at *
      generalize A * mvC L 10 0 = B at *
      omega
    rw [hc0, Int.mul_zero, Int.add_zero] at hm
    exact .inl ⟨hd, hc0, hm, nrm_of_ge (n := wN i - 1) hmw (by omega) (by rw [hm]; exact ho.1)⟩
  · obtain rfl : d = dN i := by omega
    refine .inr ⟨rfl, fun hc0 => ?_⟩
    rw [hc0, Int.mul_zero, Int.add_zero] at hm
    have := no_more hi
    rw [← hm] at this
    omega
/-- The row is done. -/
theorem dvR_done {w wr : World} {sb tb k : Nat} {T : TypeId} {bb : Nat → Nat} {l : List Nat} {i vb vc : Nat} {V : List Int} (h : DvR w wr sb tb k T bb l i vb vc (dN i) V) (hi : i < 3) :
    DvB w (wr.setCell ⟨tb, i * 3 + 1, none⟩ (.int .i64 (blOf V))) sb tb k T (fun j => if j = i then vb else bb j) l (i + 1) (i + 1) := by
  have hs := dvB_set h.b (.int .i64 (blOf V)) (o := i * 3 + 1) (by omega) (by omega)
  obtain ⟨e1, e2⟩ := ent_ok hi h.words h.nrm h.v
  have e3 := bl_ent hi h.words h.nrm h.v
  refine ⟨hs.k3, fun j hj => ?_, hs.zero, hs.row, hs.stk, hs.kp, hs.sbw, hs.lnew, hs.tnew, fun j hj => ?_, hs.tl⟩
  · by_cases hji : j = i
    · subst hji
      simp only [if_true]
      refine ⟨⟨vc, V, ?_, natB_of h.nb (Below.heap_setCell _ _ _ _ (by simpa using h.vt)), h.words, h.nrm, h.v, e1, h.big⟩, ?_, ?_⟩
      · rw [World.cell?_setCell_other _ _ _ _ (by intro e; simp at e), ← e1]; exact h.c0
      · rw [e3]
        exact World.cell?_setCell_same _ _ _ h.c1
      · rw [World.cell?_setCell_other _ _ _ _ (by intro e; simp at e)]; exact h.c2
    · simp only [hji, if_false]
      exact hs.ent j (by omega)
  · by_cases hji : j = i
    · subst hji
      simp only [if_true]
      exact ⟨h.vnew, h.vt, h.vl⟩
    · simp only [hji, if_false]
      exact hs.bnew j (by omega)
/-- The table stands. -/
theorem tab_of {w wr : World} {sb tb k : Nat} {T : TypeId} {bb : Nat → Nat} {l : List Nat} {z : Nat} (h : DvB w wr sb tb k T bb l k z) : TabE wr tb k bb :=
  ⟨h.k3, fun i hi => by
    obtain ⟨c, V, a1, a2, a3, a4, a5, a6, a7⟩ := (h.ent i hi).ex
    exact ⟨V, c, a1, (h.ent i hi).bits, (h.ent i hi).digs, a2.rds, a6, a5, (ent_ok (by have := h.k3; omega) a3 a4 a5).2⟩⟩
end Go.Proofs.YtoofphhfealcaaaGreatDoor

namespace Go.Proofs.YtoofphhfealcaaaGreatDoor
open Go.RowKit
/-- What a square leaves that may use the stack. -/
def SqKPost (w : World) (sb : Nat) (l : List Nat) (x : Int) (e : Ending) (w' : World) : Prop :=
  ∃ (ub uc : Nat) (Z : List Int) (l' : List Nat), e = .returned (.slice (some ⟨ub, 0, none⟩) (List.length Z) uc) ∧ NatB w' ub uc Z ∧ Words Z ∧ nrm Z = Z ∧ val Z = x ∧ uc ≤ 1048576 ∧ w.heap.size ≤ ub ∧ StkAt w' sb l' 0 ∧ (∀ y ∈ l', y ∈ l ∨ w.heap.size ≤ y) ∧ ub ∉ l' ∧ Kp (sb :: l) w w'
set_option maxRecDepth 100000 in
set_option maxHeartbeats 4000000 in
theorem sqr16 (xb xc sb : Nat) (l : List Nat) (xs : List Int) (w : World) (hxl : xs.length = 16) (hX : Words xs) (hS : StkAt w sb l 0) (hB : NatB w xb xc xs) (hxc : xc ≤ 1048576) (d2 : xb ∉ sb :: l)
    (h15 : w.cell? ⟨15, 0, none⟩ = some (.int .i64 12)) (h16 : w.cell? ⟨16, 0, none⟩ = some (.int .i64 80)) :
    Calls Tryz.prog 193 #[.slice none 0 0, .pointer (some ⟨sb, 0, none⟩), .slice (some ⟨xb, 0, none⟩) 16 xc] w (SqKPost w sb l (val xs * val xs)) := by
  have hfit := hB.fit
  have HAL := Lib.hid (alias_z (.slice none 0 0) [] xb xc 16 w (.inl ⟨rfl, rfl⟩) (by simp) (by omega) hxc hB.blk)
  have HMK : Hid (∀ q, Calls Tryz.prog 171 #[.slice none 0 0, .int .i64 32] (w.drewN q) fun e w' => ∃ ub uc, e = .returned (.slice (some ⟨ub, 0, none⟩) 32 uc) ∧ MkPost (w.drewN q) w' [] 32 ub uc) := fun q => make_u (.slice none 0 0) [] 32 (w.drewN q) (.inl ⟨rfl, rfl⟩) (by omega) (by omega)
  have HX := Lib.hid hX; have HB := Lib.hid hB; have H15 := Lib.hid h15; have H16 := Lib.hid h16; have HXN := Lib.hid hxl; have HS := Lib.hid hS; have HD2 := Lib.hid d2
  clear hX hB h15 h16 hxl hS d2
  go_enter Tryz.func193, Tryz.ntmps193
  go_upto_region 11 with (go_at_call 174; refine HAL.out.mono ?_; rintro e w2 ⟨rfl, q, rfl⟩)
  go_upto_region 12 with (go_at_call 171; refine (HMK.out q).mono ?_; rintro e w2 ⟨ub, uc, rfl, hmk⟩; have HM := Lib.hid hmk; clear hmk)
  have hkp : Kp [] w w2 := ((Kp.refl [] w).drewN q).trans (kp_below HM.out.below)
  have h15 : w2.cell? ⟨15, 0, none⟩ = some (.int .i64 12) := hkp.cell H15.out (by simp)
  have h16 : w2.cell? ⟨16, 0, none⟩ = some (.int .i64 80) := hkp.cell H16.out (by simp)
  have hub : ub = w.heap.size := by
    rcases HM.out.new with h | h
    · simp at h
    · simpa using h
  have hslt := stk_lt HS.out
  have d1 : ub ∉ sb :: l := fun h => by have := hslt ub h; omega
  have hxlt := natB_lt HB.out
  have d2 : xb ∉ ub :: sb :: l := fun h => by
    rcases List.mem_cons.1 h with h | h
    · omega
    · exact HD2.out h
  have HBS := Lib.hid (basicSqr16 ub uc xb xc sb l xs w2 HXN.out HX.out (stk_kp HS.out hkp (by simp)) HM.out.row HM.out.fit (natB_kp HB.out hkp (by simp)) d1 d2 h15)
  have HK := Lib.hid hkp; have HUB := Lib.hid hub; have HD1 := Lib.hid d1
  clear hkp hub hslt d1 hxlt d2
  go_upto_region 20 with (go_at_call 210; refine HBS.out.mono ?_; rintro e w3 ⟨⟨v, rfl⟩, Z, l', hzl, z2, z3, z4, z5, z6, z7⟩; have HZ2 := Lib.hid (And.intro hzl (And.intro z2 (And.intro z3 (And.intro z4 (And.intro z5 (And.intro z6 z7)))))); have HNR := Lib.hid (norm_any ub 0 uc Z w3 (by omega) z2.fit z2.rds); rw [hzl] at HNR; clear hzl z2 z3 z4 z5 z6 z7)
  go_wp2_with (go_at_call 154; refine HNR.out.mono ?_; rintro e w4 ⟨rfl, rfl⟩)
  go_ret
  obtain ⟨a1, a2, a3, a4, a5, a6, a7⟩ := HZ2.out
  have hsz := HK.out.size
  have hul : ub ∉ l' := fun h => by
    rcases a6 ub h with h1 | h1
    · exact HD1.out (by simp [h1])
    · have := rowC_lt HM.out.row; omega
  refine ⟨ub, uc, nrm Z, l', rfl, natB_nrm a2, words_nrm a3, nrm_nrm Z, by rw [val_nrm, a4], HM.out.big, by have := HUB.out; omega, a5, fun y hy => ?_, hul, kp_step (kp_mono HK.out (by simp)) a7 (fun y hy => ?_)⟩
  · rcases a6 y hy with h | h
    · exact .inl h
    · exact .inr (by omega)
  · simp only [List.mem_cons] at hy
    rcases hy with rfl | h
    · exact .inr (by have := HUB.out; omega)
    · exact .inl (by simpa using h)
/-- The square of a row of the table. -/
theorem sqr_ent {w : World} {sb tb j bj : Nat} {l : List Nat} (hj : j < 2) (hE : EntE w tb j bj) (hS : StkAt w sb l 0) (hb : bj ∉ sb :: l) (h15 : w.cell? ⟨15, 0, none⟩ = some (.int .i64 12)) (h16 : w.cell? ⟨16, 0, none⟩ = some (.int .i64 80)) :
    ∃ c, w.cell? ⟨tb, j * 3, none⟩ = some (.slice (some ⟨bj, 0, none⟩) (wN j) c) ∧ Calls Tryz.prog 193 #[.slice none 0 0, .pointer (some ⟨sb, 0, none⟩), .slice (some ⟨bj, 0, none⟩) (wN j) c] w (SqKPost w sb l (ten (dN (j + 1)))) := by
  obtain ⟨c, V, a1, a2, a3, a4, a5, a6, a7⟩ := hE.ex
  refine ⟨c, a1, ?_⟩
  have : j = 0 ∨ j = 1 := by omega
  rcases this with rfl | rfl
  · refine (sqr_mid (.slice none 0 0) (.pointer (some ⟨sb, 0, none⟩)) [] bj c (wN 0) V w a6 (by decide) (by decide) a3 a2 a7 (.inl ⟨rfl, rfl⟩) (by simp) h15 h16).mono ?_
    rintro e w' ⟨ub, uc, Z, rfl, b1, b2, b3, b4, b5, b6, b7⟩
    have hsl := stk_lt hS
    have hub : w.heap.size ≤ ub := by
      rcases b6 with h | h
      · simp at h
      · exact h
    refine ⟨ub, uc, Z, l, rfl, b1, b2, b3, ?_, b5, hub, stk_kp hS b7 (by simp), fun y hy => .inl hy, fun h => by have := hsl ub (by simp [h]); omega, kp_mono b7 (by simp)⟩
    rw [b4, a5, ← ten_add]
    rfl
  · have := sqr16 bj c sb l V w a6 a3 hS a2 a7 hb h15 h16
    rw [a5, ← ten_add] at this
    exact this
end Go.Proofs.YtoofphhfealcaaaGreatDoor

namespace Go.Proofs.YtoofphhfealcaaaGreatDoor
open Go.RowKit
theorem info275 : (Tryz.prog.info? 275).map (fun i => (i.zero, i.size, i.bytes)) = some (some (.agg #[.slice none 0 0, .int .i64 0, .int .i64 0]), 3, 40) := by kernel_rfl
theorem und249 : Tryz.prog.underlying 249 = some (.slice 275) := by kernel_rfl
def dz3 : Array Value := #[.slice none 0 0, .int .i64 0, .int .i64 0]
theorem make_table (k : Nat) (hk : k ≤ 1000) (w : World) :
    (Instr.makeSlice 249 (.int .i64 (k : Int)) (.int .i64 (k : Int))).run Tryz.prog w = .ok (.slice (some ⟨w.heap.size, 0, none⟩) k k) (w.alloc (.cells (madeCells dz3 (k * 3)) 275)) := by
  obtain ⟨i0, hi, hz0, hz1, hz2⟩ := info_parts info275
  have := run_make (P := Tryz.prog) (w := w) 249 275 i0 (.agg #[.slice none 0 0, .int .i64 0, .int .i64 0]) und249 hi hz0 .i64 .i64 (k : Int) (k : Int) (by omega) (by omega) (by rw [hz2]; omega) (by omega)
  rw [this, hz1]
  simp [Value.cells, dz3]
theorem made_get (k j f : Nat) (hj : j < k) (hf : f < 3) : (madeCells dz3 (k * 3))[j * 3 + f]? = dz3[f]? := by
  have h : (j * 3 + f) % 3 = f := by omega
  have h2 : j * 3 + f < k * 3 := by omega
  have e : (madeCells dz3 (k * 3))[j * 3 + f]? = some (dz3.getD ((j * 3 + f) % 3) default) := by
    simp [madeCells, dz3, h2]
  rw [e, h]
  have : f = 0 ∨ f = 1 ∨ f = 2 := by omega
  rcases this with rfl | rfl | rfl <;> rfl
/-- The table as it is made. -/
theorem dvB_start {w : World} {sb k : Nat} (hk : k ≤ 3) (hS : StkAt w sb [] 0) (bb : Nat → Nat) : DvB w (w.alloc (.cells (madeCells dz3 (k * 3)) 275)) sb w.heap.size k 275 bb [] 0 0 := by
  have hb : (w.alloc (.cells (madeCells dz3 (k * 3)) 275)).heap[w.heap.size]? = some (.cells (madeCells dz3 (k * 3)) 275 (0, 0)) := heap_alloc_new w _
  have hsl := stk_lt hS
  refine ⟨hk, fun j hj => absurd hj (by omega), fun j _ hj => ⟨?_, ?_, ?_⟩, ⟨_, hb, size_madeCells _ _⟩, stk_kp hS (kp_alloc [] w _) (by simp), kp_alloc _ w _, hsl sb (by simp), fun y hy => by simp at hy, Nat.le_refl _, fun j hj => absurd hj (by omega), by simp⟩
  · rw [cell_of_row _ _ _ _ _ _ hb, show j * 3 = j * 3 + 0 by omega, made_get k j 0 hj (by omega)]; rfl
  · rw [cell_of_row _ _ _ _ _ _ hb, made_get k j 1 hj (by omega)]; rfl
  · rw [cell_of_row _ _ _ _ _ _ hb, made_get k j 2 hj (by omega)]; rfl
theorem dvB_zmono {w wr : World} {sb tb k : Nat} {T : TypeId} {bb : Nat → Nat} {l : List Nat} {i z z' : Nat} (h : DvB w wr sb tb k T bb l i z) (hz : z ≤ z') : DvB w wr sb tb k T bb l i z' :=
  ⟨h.k3, h.ent, fun j h1 h2 => h.zero j (by omega) h2, h.row, h.stk, h.kp, h.sbw, h.lnew, h.tnew, h.bnew, h.tl⟩
theorem dvB_sb {w wr : World} {sb tb k : Nat} {T : TypeId} {bb : Nat → Nat} {l : List Nat} {i z : Nat} (h : DvB w wr sb tb k T bb l i z) : tb ≠ sb := by have := h.sbw; have := h.tnew; omega
/-- A row gets its first number. -/
theorem dvR_of {w wr w2 : World} {sb tb k ub uc d i : Nat} {T : TypeId} {bb : Nat → Nat} {l l2 : List Nat} {V : List Int} (h : DvB w wr sb tb k T bb l i i) (hik : i < k) (hk2 : Kp (sb :: l) wr w2) (hs2 : StkAt w2 sb l2 0) (hl2 : ∀ y ∈ l2, y ∈ l ∨ wr.heap.size ≤ y)
    (nb : NatB w2 ub uc V) (hw : Words V) (hn : nrm V = V) (hv : val V = ten d) (huc : uc ≤ 1048576) (hub : wr.heap.size ≤ ub) (hul : ub ∉ l2) :
    DvR w ((w2.setCell ⟨tb, i * 3, none⟩ (.slice (some ⟨ub, 0, none⟩) V.length uc)).setCell ⟨tb, i * 3 + 2, none⟩ (.int .i64 d)) sb tb k T bb l2 i ub uc d V := by
  have hts := dvB_sb h
  have htl := dvB_lt h
  have hsz := h.kp.size
  have hb2 : DvB w w2 sb tb k T bb l2 i i := dvB_stk h hk2 (by simp only [List.mem_cons]; rintro (e | e); exact hts e; exact h.tl e) (fun j hj => by
    obtain ⟨b1, b2, b3⟩ := h.bnew j hj
    simp only [List.mem_cons]
    rintro (e | e)
    · have := h.sbw; omega
    · exact b3 e) (fun y hy => by
      rcases List.mem_cons.1 hy with e | e
      · exact .inl e
      · exact .inr (h.lnew y e)) hs2 hl2
  have hz := dvB_zmono hb2 (Nat.le_succ i)
  have hc0 := (hb2.zero i (Nat.le_refl _) hik)
  have hut : ub ≠ tb := by omega
  refine ⟨dvB_set (dvB_set hz _ (Nat.le_refl _) (by omega)) _ (by omega) (by omega), hik, ?_, ?_, ?_, natB_of nb (by rw [Below.heap_setCell _ _ _ _ (by simpa using hut), Below.heap_setCell _ _ _ _ (by simpa using hut)]), hw, hn, hv, huc, by omega, hut, hul, fun j hj => ?_⟩
  · rw [World.cell?_setCell_other _ _ _ _ (by simp)]
    exact World.cell?_setCell_same _ _ _ hc0.1
  · rw [World.cell?_setCell_other _ _ _ _ (by simp), World.cell?_setCell_other _ _ _ _ (by simp)]
    exact hc0.2.1
  · exact World.cell?_setCell_same _ _ _ (by rw [World.cell?_setCell_other _ _ _ _ (by simp)]; exact hc0.2.2)
  · have := dvB_blt h hj
    omega
/-- The inner loop: a copy of the number, ten times as great each round. -/
structure DvL (w wx : World) (sb tb k : Nat) (T : TypeId) (bb : Nat → Nat) (l : List Nat) (i lb lc d vb vc : Nat) (V L : List Int) : Prop where
  r : DvR w wx sb tb k T bb l i vb vc d V
  nb : NatB wx lb lc L
  words : Words L
  len : L.length = wN i
  v : val L = ten d
  lnew : w.heap.size ≤ lb
  lt : lb ≠ tb
  lv : lb ≠ vb
  ll : lb ∉ l
  lbb : ∀ j, j < i → bb j ≠ lb
  d0 : (if i = 0 then 152 else dN i) ≤ d
  d1 : d ≤ dN i
/-- The copy is multiplied: the row under way is as it was. -/
theorem dvL_mul {w wx w2 : World} {sb tb k : Nat} {T : TypeId} {bb : Nat → Nat} {l : List Nat} {i lb lc d vb vc : Nat} {V L L2 : List Int} (h : DvL w wx sb tb k T bb l i lb lc d vb vc V L) (hs : Seg wx w2 lb 0 L2) (hl : L2.length = L.length) : DvR w w2 sb tb k T bb l i vb vc d V ∧ NatB w2 lb lc L2 := by
  have hsb : sb ≠ lb := by have := h.r.b.sbw; have := h.lnew; omega
  refine ⟨dvR_kp h.r hs.kp (by simpa using h.lt.symm) (by simpa using h.lv.symm) (fun j hj => by simpa using h.lbb j hj) (fun y hy => ?_) (fun y hy => ?_), natB_row (rowC_seg h.nb.blk hs) hs.rds (by have := h.nb.fit; omega)⟩
  · simp only [List.mem_singleton]
    rintro rfl
    rcases List.mem_cons.1 hy with e | e
    · exact hsb e.symm
    · exact h.ll e
  · obtain rfl : y = lb := by simpa using hy
    exact h.lnew
/-- The row takes the copy over. -/
theorem dvL_next {w wx w2 w3 : World} {sb tb k : Nat} {T : TypeId} {bb : Nat → Nat} {l : List Nat} {i lb lc d vb vc ub uc : Nat} {V L L2 : List Int} (h : DvL w wx sb tb k T bb l i lb lc d vb vc V L) (hR : DvR w w2 sb tb k T bb l i vb vc d V) (hN : NatB w2 lb lc L2) (hd : d < dN i) (hw : Words L2) (hn : nrm L2 = L2) (hl : L2.length = L.length) (hv : val L2 = ten (d + 1))
    (a1 : NatB w3 ub uc L2) (a2 : uc ≤ 1048576) (a3 : ub ∈ [vb] ∨ ub = w2.heap.size) (a4 : Kp [vb] w2 w3) :
    DvL w ((w3.setCell ⟨tb, i * 3, none⟩ (.slice (some ⟨ub, 0, none⟩) L2.length uc)).setCell ⟨tb, i * 3 + 2, none⟩ (.int .i64 ((d + 1 : Nat) : Int))) sb tb k T bb l i lb lc (d + 1) ub uc L2 L2 := by
  have hsv : sb ≠ vb := by have := hR.b.sbw; have := hR.vnew; omega
  have hB3 : DvB w w3 sb tb k T bb l i (i + 1) := dvB_kp hR.b a4 (by simpa using hR.vt.symm) (fun j hj => by simpa using hR.vbb j hj) (fun y hy => by
    simp only [List.mem_singleton]
    rintro rfl
    rcases List.mem_cons.1 hy with e | e
    · exact hsv e.symm
    · exact hR.vl e) (fun y hy => by
    obtain rfl : y = vb := by simpa using hy
    exact hR.vnew)
  have hszb := hR.b.kp.size
  have htl := dvB_lt hR.b
  have hlt2 := natB_lt hN
  have hu : ub = vb ∨ ub = w2.heap.size := by simpa using a3
  have hut : ub ≠ tb := by
    rcases hu with e | e
    · rw [e]; exact hR.vt
    · omega
  have hul : ub ∉ l := by
    rcases hu with e | e
    · rw [e]; exact hR.vl
    · intro hm
      have := stk_lt hR.b.stk ub (by simp [hm])
      omega
  have hlu : lb ≠ ub := by
    rcases hu with e | e
    · rw [e]; exact h.lv
    · omega
  have hc0 := a4.cell hR.c0 (by simpa using hR.vt.symm)
  have hc1 := a4.cell hR.c1 (by simpa using hR.vt.symm)
  have hc2 := a4.cell hR.c2 (by simpa using hR.vt.symm)
  have keep : ∀ (b c : Nat) (xs : List Int), b ≠ tb → NatB w3 b c xs → NatB ((w3.setCell ⟨tb, i * 3, none⟩ (.slice (some ⟨ub, 0, none⟩) L2.length uc)).setCell ⟨tb, i * 3 + 2, none⟩ (.int .i64 ((d + 1 : Nat) : Int))) b c xs := fun b c xs hb hx =>
    natB_of hx (by rw [Below.heap_setCell _ _ _ _ (by simpa using hb), Below.heap_setCell _ _ _ _ (by simpa using hb)])
  refine ⟨⟨dvB_set (dvB_set hB3 _ (Nat.le_refl _) (by omega)) _ (by omega) (by omega), hR.ik, ?_, ?_, ?_, keep _ _ _ hut a1, hw, hn, hv, a2, ?_, hut, hul, fun j hj => ?_⟩, keep _ _ _ h.lt (natB_kp hN a4 (by simpa using h.lv)), hw, by rw [hl, h.len], hv, h.lnew, h.lt, hlu, h.ll, h.lbb, by have := h.d0; omega, by omega⟩
  · rw [World.cell?_setCell_other _ _ _ _ (by simp)]
    exact World.cell?_setCell_same _ _ _ hc0
  · rw [World.cell?_setCell_other _ _ _ _ (by simp), World.cell?_setCell_other _ _ _ _ (by simp)]
    exact hc1
  · exact World.cell?_setCell_same _ _ _ (by rw [World.cell?_setCell_other _ _ _ _ (by simp)]; exact hc2)
  · rcases hu with e | e
    · rw [e]; exact hR.vnew
    · omega
  · rcases hu with e | e
    · rw [e]; exact hR.vbb j hj
    · have := dvB_blt hR.b hj
      omega
theorem dvR_d01 {i d : Nat} (hd : d = if i = 0 then 152 else dN i) : d ≤ dN i := by
  rw [hd]
  split
  · rename_i e; subst e; decide
  · omega
theorem dvR_len {w wr : World} {sb tb k : Nat} {T : TypeId} {bb : Nat → Nat} {l : List Nat} {i vb vc d : Nat} {V : List Int} (h : DvR w wr sb tb k T bb l i vb vc d V) (hd : d = if i = 0 then 152 else dN i) (hi : i < 3) : V.length = wN i := by
  obtain ⟨o1, o2⟩ := okD_all hi (show _ ≤ d by omega) (dvR_d01 hd)
  have hw8 := @wN_pos i
  have := len_of_val (k := wN i - 1) h.words h.nrm (by rw [h.v]; exact o1) (by rw [h.v, show wN i - 1 + 1 = wN i by omega]; exact o2)
  omega
/-- The copy is made. -/
theorem dvL_start {w wr w2 : World} {sb tb k : Nat} {T : TypeId} {bb : Nat → Nat} {l : List Nat} {i vb vc d lb lc : Nat} {V : List Int} (h : DvR w wr sb tb k T bb l i vb vc d V) (hd : d = if i = 0 then 152 else dN i) (hi : i < 3) (a1 : NatB w2 lb lc V) (a2 : lb = wr.heap.size) (a3 : Kp [] wr w2) :
    DvL w w2 sb tb k T bb l i lb lc d vb vc V V := by
  have htl := dvB_lt h.b
  have hvl := natB_lt h.nb
  have hsz := h.b.kp.size
  have h01 : d ≤ dN i := by
    rw [hd]
    split
    · rename_i e; subst e; decide
    · omega
  obtain ⟨o1, o2⟩ := okD_all hi (show _ ≤ d by omega) h01
  have hw8 := @wN_pos i
  have hlen : V.length = wN i := by
    have := len_of_val (k := wN i - 1) h.words h.nrm (by rw [h.v]; exact o1) (by rw [h.v, show wN i - 1 + 1 = wN i by omega]; exact o2)
    omega
  refine ⟨dvR_new h a3, a1, h.words, hlen, h.v, by omega, by omega, by omega, fun hm => ?_, fun j hj => ?_, by omega, h01⟩
  · have := stk_lt h.b.stk lb (by simp [hm])
    omega
  · have := dvB_blt h.b hj
    omega
end Go.Proofs.YtoofphhfealcaaaGreatDoor

namespace Go.Proofs.YtoofphhfealcaaaGreatDoor
open Go.RowKit
/-- What it leaves. -/
def DivsPost (w : World) (sb k : Nat) (e : Ending) (w' : World) : Prop := ∃ (tb : Nat) (bb : Nat → Nat) (l : List Nat), e = .returned (.slice (some ⟨tb, 0, none⟩) k k) ∧ DvB w w' sb tb k 275 bb l k k
/-- How many digits the row under way has, as the world tells. -/
def digsOf (w : World) (tb i : Nat) : Nat := match w.cell? ⟨tb, i * 3 + 2, none⟩ with
  | some (.int .i64 z) => z.toNat
  | _ => 0
theorem digsOf_r {w wx : World} {sb tb k : Nat} {T : TypeId} {bb : Nat → Nat} {l : List Nat} {i vb vc d : Nat} {V : List Int} (h : DvR w wx sb tb k T bb l i vb vc d V) : digsOf wx tb i = d := by
  unfold digsOf
  rw [h.c2]
  rfl
theorem kp_frz {L : List Nat} {w w' : World} {b o : Nat} {x : Bool} (hk : Kp L w w') (hb : b < w.heap.size) (hn : b ∉ L) (h : w.frozen? ⟨b, o, none⟩ = x) : w'.frozen? ⟨b, o, none⟩ = x := by
  have := hk.block b hb hn
  rw [← h]
  simp only [World.frozen?, this]
set_option maxRecDepth 100000 in
set_option maxHeartbeats 8000000 in
theorem divisors_any (sb m k : Nat) (w : World) (hS : StkAt w sb [] 0) (hm9 : 9 ≤ m) (hm65 : m ≤ 65) (hk : k = if m ≤ 17 then 1 else if m ≤ 33 then 2 else 3)
    (h12 : w.cell? ⟨12, 0, none⟩ = some (.int .i64 8)) (h15 : w.cell? ⟨15, 0, none⟩ = some (.int .i64 12)) (h16 : w.cell? ⟨16, 0, none⟩ = some (.int .i64 80)) (h20 : 20 ≤ sb) :
    Calls Tryz.prog 164 #[.pointer (some ⟨sb, 0, none⟩), .int .i64 m, .int .u64 10, .int .i64 19, .int .u64 10000000000000000000] w (DivsPost w sb k) := by
  have hk3 : k ≤ 3 := by rw [hk]; split; omega; split <;> omega
  have hk1 : 1 ≤ k := by rw [hk]; split; omega; split <;> omega
  have hmk := make_table k (by omega) w
  have HB0 := Lib.hid (dvB_start hk3 hS (fun _ => 0))
  have HS := Lib.hid hS; have HKK := Lib.hid hk; have H12 := Lib.hid h12; have H15 := Lib.hid h15; have H16 := Lib.hid h16
  clear hS hk h15 h16
  go_enter Tryz.func164, Tryz.ntmps164
  obtain ⟨h, hh, hhm⟩ : ∃ h : Nat, (m : Int) / 2 = (h : Int) ∧ h = m / 2 := ⟨m / 2, by omega, rfl⟩
  have HHM := Lib.hid hhm
  have hh32 : h ≤ 32 := by omega
  clear hhm
  go_upto_block 0 with fail
  go_cut [11] from 12 to 35 (fun kv wx => kv = .int .i64 (k : Int) ∧ wx = w)
  case first =>
    clear hmk HB0 HS H15 H16
    go_upto_region 5 with fail
    go_loopw [11, 12] (fun kv wv wx => ((kv = .int .i64 1 ∧ wv = .int .i64 8) ∨ (kv = .int .i64 2 ∧ wv = .int .i64 16 ∧ Hid (8 < h)) ∨ (kv = .int .i64 3 ∧ wv = .int .i64 32 ∧ Hid (16 < h))) ∧ w = wx) (fun kv _ _ => 4 - (intOf kv).toNat)
    case atStart => exact ⟨.inl ⟨rfl, rfl⟩, rfl⟩
    case round =>
      obtain ⟨hr, rfl⟩ := hrel
      rcases hr with ⟨rfl, rfl⟩ | ⟨rfl, rfl, H8⟩ | ⟨rfl, rfl, H16'⟩
      · by_cases hgo : (8 : Int) < (h : Int)
        · go_wp2_with fail
          go_roundw
          case rel => exact ⟨.inr (.inl ⟨rfl, rfl, by show _ < _; omega⟩), by first | trivial | rfl⟩
          case measure => simp [intOf]
        · go_wp2_with fail
          go_meet
          refine ⟨?_, rfl⟩
          have h1 := HKK.out
          have h2 := HHM.out
          rw [if_pos (by omega)] at h1
          rw [h1]
          rfl
      · by_cases hgo : (16 : Int) < (h : Int)
        · go_wp2_with fail
          go_roundw
          case rel => exact ⟨.inr (.inr ⟨rfl, rfl, by show _ < _; omega⟩), by first | trivial | rfl⟩
          case measure => simp [intOf]
        · go_wp2_with fail
          go_meet
          refine ⟨?_, rfl⟩
          have h1 := HKK.out
          have h2 := HHM.out
          have h3 := H8.out
          rw [if_neg (by omega), if_pos (by omega)] at h1
          rw [h1]
          rfl
      · have hgo : ¬ (32 : Int) < (h : Int) := by omega
        go_wp2_with fail
        go_meet
        refine ⟨?_, rfl⟩
        have h1 := HKK.out
        have h2 := HHM.out
        have h3 := H16'.out
        rw [if_neg (by omega), if_neg (by omega)] at h1
        rw [h1]
        rfl
  case rest =>
    obtain ⟨rfl, hcw⟩ := hcut
    obtain rfl := hcw.symm
    go_upto_region 10 with fail
    generalize hW0 : w.alloc (.cells (madeCells dz3 (k * 3)) 275) = w0 at *
    obtain ⟨kk, hkk, hkk2⟩ : ∃ kk, k - 1 = kk ∧ kk < k := ⟨k - 1, rfl, by omega⟩
    have hkkI : IntKind.i64.wrap ((k : Int) - 1) = (kk : Int) := by rw [IntKind.wrap_i64]; omega
    have hc10 : w0.cell? ⟨w.heap.size, kk * 3 + 2, none⟩ = some (.int .i64 0) := (HB0.out.zero kk (Nat.zero_le _) hkk2).2.2
    generalize htb : w.heap.size = tb at *
    clear hmk hW0 htb h12 HHM hh32 hh
    go_upto_region 13 with fail
    clear hc10 hkk hkkI hkk2
    go_loopw [15] (fun iv wr => ∃ (i : Nat) (bb : Nat → Nat) (l : List Nat), iv = .int .i64 i ∧ i ≤ k ∧ Hid (DvB w wr sb tb k 275 bb l i i)) (fun iv _ => k - (intOf iv).toNat)
    case atStart => exact ⟨0, _, [], rfl, Nat.zero_le _, HB0⟩
    case round =>
      obtain ⟨i, bb, l, rfl, hik, HB⟩ := hrel
      clear HB0 HS
      by_cases hlt : i < k
      · have hi3 : i < 3 := by omega
        have hz := HB.out.zero i (Nat.le_refl _) hlt
        have hcz := hz.2.2
        obtain ⟨hf0, hx0⟩ := dvB_cell HB.out (i * 3)
        obtain ⟨hf1, hx1⟩ := dvB_cell HB.out (i * 3 + 1)
        obtain ⟨hf2, hx2⟩ := dvB_cell HB.out (i * 3 + 2)
        clear hx0 hx1 hx2
        go_upto_if 57 with fail
        have hc12 : wr.cell? ⟨12, 0, none⟩ = some (.int .i64 8) := HB.out.kp.cell H12.out (by simp; omega)
        have h15r : wr.cell? ⟨15, 0, none⟩ = some (.int .i64 12) := HB.out.kp.cell H15.out (by simp; omega)
        have h16r : wr.cell? ⟨16, 0, none⟩ = some (.int .i64 80) := HB.out.kp.cell H16.out (by simp; omega)
        have hts := dvB_sb HB.out
        have htlt := dvB_lt HB.out
        have ht12 : tb ≠ 12 := by have := HB.out.sbw; have := HB.out.tnew; omega
        have ht12' : (12 : Nat) ≠ tb := fun h => ht12 h.symm
        go_cut [15] from 57 to 94 (fun iv wx => iv = .int .i64 i ∧ Hid (∃ (vb vc d : Nat) (V : List Int) (l' : List Nat), DvR w wx sb tb k 275 bb l' i vb vc d V ∧ d = if i = 0 then 152 else dN i))
        case first =>
          by_cases h0 : i = 0
          · subst h0
            have HE := Lib.hid (expWW_any sb wr h15r h16r)
            have HC12 := Lib.hid hc12
            simp only [Nat.zero_mul, Nat.zero_add] at hz hcz hf0 hf1 hf2
            have HZ := Lib.hid hz
            have HF0 := Lib.hid hf0; have HF2 := Lib.hid hf2
            clear h15r h16r hz hf1
            go_wp2_with (go_at_call 192; refine HE.out.mono ?_; rintro e w2 ⟨ub, uc, Z, rfl, b1, b2, b3, b4, b5, b6, b7⟩; have c0 := b7.cell HZ.out.1 (by simp); have c2 := b7.cell HZ.out.2.2 (by simp); have c12 := b7.cell HC12.out (by simp); have f0 := kp_frz b7 htlt (by simp) HF0.out; have f2 := kp_frz b7 htlt (by simp) HF2.out; have HB7 := Lib.hid (And.intro b1 (And.intro b2 (And.intro b3 (And.intro b4 (And.intro b5 (And.intro b6 b7)))))); clear b1 b2 b3 b4 b5 b6 b7)
            go_meet
            obtain ⟨b1, b2, b3, b4, b5, b6, b7⟩ := HB7.out
            have hsl := stk_lt HB.out.stk
            have hub : wr.heap.size ≤ ub := by
              rcases b6 with h | h
              · simp at h
              · exact h
            exact ⟨rfl, ub, uc, 152, Z, l, dvR_of HB.out hlt (kp_mono b7 (by simp)) (stk_kp HB.out.stk b7 (by simp)) (fun y hy => .inl hy) b1 b2 b3 b4 b5 hub (fun h => by have := hsl ub (by simp [h]); omega), rfl⟩
          · obtain ⟨j, hij, hji, hj2⟩ : ∃ j, i - 1 = j ∧ j < i ∧ j < 2 := ⟨i - 1, rfl, by omega, by omega⟩
            have hijI : IntKind.i64.wrap ((i : Int) - 1) = (j : Int) := by rw [IntKind.wrap_i64]; omega
            have hjk : j < k := by omega
            obtain ⟨hb1, hb2, hb3⟩ := HB.out.bnew j hji
            have hsbw := HB.out.sbw
            obtain ⟨c, hcj, hsq⟩ := sqr_ent hj2 (HB.out.ent j hji) HB.out.stk (by simp only [List.mem_cons]; rintro (e | e); omega; exact hb3 e) h15r h16r
            have hdj := (HB.out.ent j hji).digs
            have hdd : IntKind.i64.wrap (2 * (dN j : Int)) = (dN i : Int) := by
              have : (j = 0 ∧ i = 1) ∨ (j = 1 ∧ i = 2) := by omega
              rcases this with ⟨rfl, rfl⟩ | ⟨rfl, rfl⟩ <;> rfl
            have HDI : Hid (dN (j + 1) = dN i) := by show _ = _; congr 1; omega
            have hdd' : 2 * (dN j : Int) = (dN i : Int) := by
              have : (j = 0 ∧ i = 1) ∨ (j = 1 ∧ i = 2) := by omega
              rcases this with ⟨rfl, rfl⟩ | ⟨rfl, rfl⟩ <;> rfl
            rw [HDI.out] at hsq
            have HSQ := Lib.hid hsq
            have HZ := Lib.hid hz; have HF0 := Lib.hid hf0; have HF2 := Lib.hid hf2; have HDJ := Lib.hid hdj; have HDD := Lib.hid hdd
            have htl' : tb ∉ sb :: l := by simp only [List.mem_cons]; rintro (e | e); exact hts e; exact HB.out.tl e
            have HTL := Lib.hid htl'
            obtain ⟨dj, hdje⟩ : ∃ dj, dj = dN j := ⟨_, rfl⟩
            obtain ⟨di, hdie⟩ : ∃ di, di = dN i := ⟨_, rfl⟩
            obtain ⟨wj, hwje⟩ : ∃ wj, wj = wN j := ⟨_, rfl⟩
            rw [← hdje] at hdj hdd hdd' HDJ
            rw [← hdie] at hdd hdd' HSQ
            rw [← hwje] at hcj HSQ
            have HDIE := Lib.hid hdie
            have hdw : wrap64 (di : Int) = (di : Int) := by have : di ≤ 616 := (by rw [hdie]; rcases i with _ | _ | i <;> simp [dN]); unfold wrap64; omega
            clear hdje hdie hwje hb1 hb2 hb3 hsbw hsq htl' h15r h16r hz HDD HDI
            have h0' : ((i : Int) == 0) = false := by rw [beq_eq_false_iff_ne]; omega
            go_wp2_with (go_at_call 193; refine HSQ.out.mono ?_; rintro e w2 ⟨ub, uc, Z, l', rfl, b1, b2, b3, b4, b5, b6, b7, b8, b9, b10⟩; have c0 := b10.cell HZ.out.1 HTL.out; have c2 := b10.cell HZ.out.2.2 HTL.out; have cj := b10.cell HDJ.out HTL.out; have f0 := kp_frz b10 htlt HTL.out HF0.out; have f2 := kp_frz b10 htlt HTL.out HF2.out; have HB7 := Lib.hid (And.intro b1 (And.intro b2 (And.intro b3 (And.intro b4 (And.intro b5 (And.intro b6 (And.intro b7 (And.intro b8 (And.intro b9 b10))))))))); clear b1 b2 b3 b4 b5 b6 b7 b8 b9 b10)
            go_meet
            obtain ⟨b1, b2, b3, b4, b5, b6, b7, b8, b9, b10⟩ := HB7.out
            refine ⟨rfl, ub, uc, di, Z, l', dvR_of HB.out hlt b10 b7 b8 b1 b2 b3 b4 b5 b6 b9, by rw [if_neg h0]; exact HDIE.out⟩
        case rest =>
          obtain ⟨rfl, HR⟩ := hcut
          clear hc12 h15r h16r hts htlt HB hz hcz hf0 hf1 hf2
          obtain ⟨vb, vc, d, V, l', hr, hd⟩ := HR.out
          have hlen := dvR_len hr hd hi3
          have hw8 := @wN_pos i
          have c0 := hr.c0
          have HSU := Lib.hid (set_u (.slice none 0 0) [] vb vc V.length V wc rfl (by omega) (by omega) (.inl ⟨rfl, rfl⟩) (by simp) hr.nb)
          have HRR := Lib.hid hr; have HDD := Lib.hid hd
          rw [hlen] at c0 HSU
          have HLEN := Lib.hid hlen
          clear hr hd HR hlen
          obtain ⟨n, hn⟩ : ∃ n, n = wN i := ⟨_, rfl⟩
          rw [← hn] at c0 HSU hw8
          have HNN := Lib.hid hn
          clear hn
          go_upto_region 22 with (go_at_call 165; refine HSU.out.mono ?_; rintro e w2 ⟨lb, lc, rfl, a1, a2, a3, a4⟩; have HL0 := Lib.hid (dvL_start HRR.out HDD.out hi3 a1 (by simpa using a3) a4); have HLC := Lib.hid a2; clear a1 a2 a3 a4)
          clear HRR HDD HSU c0
          go_loopw [101] (fun _ wx => Hid (∃ (d vb vc : Nat) (V L : List Int), DvL w wx sb tb k 275 bb l' i lb lc d vb vc V L)) (fun _ wx => 1000 - digsOf wx tb i)
          case atStart => exact ⟨d, vb, vc, V, V, HL0.out⟩
          case round =>
            have HL := hrel
            clear hrel HL0 HLEN
            obtain ⟨d, vb, vc, V, L, hl⟩ := HL.out
            have HLL := Lib.hid hl
            clear hl HL
            have HMA := Lib.hid (mulAddVWW_seg lb 0 lc lb 0 lc n L 10 0 wr (by rw [HNN.out]; exact HLL.out.len) HLL.out.words (by omega) (by unfold BW; omega) (by omega) bw_pos (by omega) HLL.out.nb.rds (natB_room HLL.out.nb (by have := HLL.out.nb.fit; have := HLL.out.len; have := HNN.out; omega)) (.inr (.inl (Nat.le_refl _))))
            have hc := mul_ten hi3 HLL.out.d0 HLL.out.d1 HLL.out.words HLL.out.len HLL.out.v
            rcases hc with ⟨hdd, hc0, hv, hnr⟩ | ⟨hdd, hc0⟩
            · rw [hc0] at HMA
              have HV := Lib.hid hv; have HNR := Lib.hid hnr; have HDD := Lib.hid hdd
              have htn : (mvL L 10 0).length = n := by rw [mvL_len, HLL.out.len, HNN.out]
              have HTN := Lib.hid htn
              clear hc0 hv hnr hdd htn
              go_wp2_with (first
                | (go_at_call 172; refine HMA.out.mono ?_; rintro e w4 ⟨rfl, hs4⟩; obtain ⟨hR4, hN4⟩ := dvL_mul HLL.out hs4 (mvL_len _ _ _); have c0 := hR4.c0; have HSU := Lib.hid (set_u (.slice (some ⟨vb, 0, none⟩) V.length vc) [vb] lb lc n (mvL L 10 0) w4 HTN.out (by omega) (by omega) (.inr ⟨vb, V.length, vc, rfl, rfl, hR4.nb.blk, hR4.big⟩) (by simpa using HLL.out.lv) hN4); have HR4 := Lib.hid hR4; have HN4 := Lib.hid hN4; clear hs4 hR4 hN4)
                | (go_at_call 165; refine HSU.out.mono ?_; rintro e w5 ⟨ub, uc, rfl, a1, a2, a3, a4⟩; have c5 := a4.cell HR4.out.c0 (by simpa using HR4.out.vt.symm); have d5 := a4.cell HR4.out.c2 (by simpa using HR4.out.vt.symm); have f5 := kp_frz a4 (dvB_lt HR4.out.b) (by simpa using HR4.out.vt.symm) (dvB_cell HR4.out.b (i * 3)).1; have f6 := kp_frz a4 (dvB_lt HR4.out.b) (by simpa using HR4.out.vt.symm) (dvB_cell HR4.out.b (i * 3 + 2)).1; have HA := Lib.hid (And.intro a1 (And.intro a2 (And.intro a3 a4))); clear a1 a2 a3 a4))
              have hfin := dvL_next HLL.out HR4.out HN4.out HDD.out (words_mv _ _ _) HNR.out (mvL_len _ _ _) HV.out HA.out.1 HA.out.2.1 HA.out.2.2.1 HA.out.2.2.2
              rw [HTN.out] at hfin
              have hd616 : dN i ≤ 616 := by rcases i with _ | _ | i <;> simp [dN]
              have hwr : wrap64 ((d : Int) + 1) = ((d + 1 : Nat) : Int) := by have := HDD.out; unfold wrap64; omega
              rw [hwr]
              refine ⟨⟨_, _, _, _, _, hfin⟩, ?_⟩
              rw [digsOf_r hfin.r, digsOf_r HLL.out.r]
              have := HDD.out
              omega
            · have hne : (mvC L 10 0 == 0) = false := by rw [beq_eq_false_iff_ne]; exact hc0
              generalize mvC L 10 0 = cy at hne HMA
              have HDD := Lib.hid hdd
              have hvl : V.length = n := by
                have := (ent_ok hi3 HLL.out.r.words HLL.out.r.nrm (by rw [HLL.out.r.v, hdd])).1
                rw [this, HNN.out]
              have hv1 : 0 < V.length := by omega
              have hv2 : V.length ≤ 1048576 := by omega
              have HVL := Lib.hid hvl
              clear hc0 hdd hvl
              go_wp2_with (first
                | (go_at_call 172; refine HMA.out.mono ?_; rintro e w4 ⟨rfl, hs4⟩; obtain ⟨hR4, hN4⟩ := dvL_mul HLL.out hs4 (mvL_len _ _ _); have c0 := hR4.c0; have c1 := hR4.c1; have f1 := (dvB_cell hR4.b (i * 3 + 1)).1; have HBL := Lib.hid (bitLen_any vb vc V w4 hv1 hv2 hR4.nb.rds hR4.words); have HR4 := Lib.hid hR4; clear hs4 hR4 hN4)
                | (go_at_call 159; refine HBL.out.mono ?_; rintro e w5 ⟨rfl, rfl⟩))
              have hR4 := HR4.out
              rw [HDD.out] at hR4
              refine ⟨⟨i + 1, _, l', by go_num, by omega, dvR_done hR4 hi3⟩, by simp [intOf] <;> omega⟩
      · obtain rfl : i = k := by omega
        go_wp2_with fail
        go_ret
        exact ⟨tb, bb, l, rfl, HB.out⟩
end Go.Proofs.YtoofphhfealcaaaGreatDoor

namespace Go.Proofs.YtoofphhfealcaaaGreatDoor
open Go.RowKit

/-- What itoa answers, of a bounded size. -/
def ItoaB (w : World) (e : Ending) (w' : World) : Prop :=
  ∃ (g o cap : Nat) (l : List UInt8), e = .returned (.slice (some ⟨g, o, none⟩) l.length cap) ∧ l.length ≤ 65536 ∧ (∀ j (hj : j < l.length), w'.cell? ⟨g, o + j, none⟩ = some (.int .u8 (l[j].toNat : Int))) ∧ Below w.heap.size w w'
set_option maxRecDepth 100000 in
set_option maxHeartbeats 4000000 in
theorem textB_any (ib : Nat) (neg : Bool) (z : Value) (w : World) (hI : IntB w ib neg z) (hit : ∀ W, w.heap.size ≤ W.heap.size → Below w.heap.size w W → Calls Tryz.prog 143 #[z, .bool neg, .int .i64 10] W (ItoaB W)) :
    Calls Tryz.prog 123 #[.pointer (some ⟨ib, 0, none⟩), .int .i64 10] w fun e w' => ∃ t, e = .returned (.string t) ∧ t.size ≤ 65536 ∧ Below w.heap.size w w' := by
  obtain ⟨c0, c1, f0, f1, hlt⟩ := intB_cells hI
  have HIT := Lib.hid hit
  clear hI hit
  go_enter Tryz.func123, Tryz.ntmps123
  go_wp2_with fail
  go_still_tail 9, (by kernel_rfl)
  change wpList _ _ _ _ _ w.drew
  have hB0 : Below w.heap.size w w.drew := (Below.refl _ _).drew
  generalize w.drew = w2 at hB0 ⊢
  have HB0 := Lib.hid hB0
  clear hB0
  go_wp2_with (go_at_call 143; refine (HIT.out _ HB0.out.size HB0.out).mono ?_; rintro e w3 ⟨g, o, cap, l, rfl, hl6, hc, hB⟩; have hcv := run_convert_bytes_back (P := Tryz.prog) w3 148 9 5 ⟨g, o, none⟩ cap l und148k und5 und9 (fun j hj => by rw [Addr.add_lit]; exact hc j hj); have HB := Lib.hid hB; clear hc hB)
  go_ret
  exact ⟨_, rfl, by simpa [ByteArray.size] using hl6, HB0.out.trans (HB.out.mono HB0.out.size)⟩
theorem stringB_any (ib : Nat) (neg : Bool) (z : Value) (w : World) (hI : IntB w ib neg z) (hit : ∀ W, w.heap.size ≤ W.heap.size → Below w.heap.size w W → Calls Tryz.prog 143 #[z, .bool neg, .int .i64 10] W (ItoaB W)) :
    Calls Tryz.prog 85 #[.pointer (some ⟨ib, 0, none⟩)] w fun e w' => ∃ t, e = .returned (.string t) ∧ t.size ≤ 65536 ∧ Below w.heap.size w w' := by
  have HI := Lib.hid hI
  have HIT := Lib.hid hit
  clear hI hit
  go_enter Tryz.func85, Tryz.ntmps85
  go_wp2_with (go_at_call 123; refine (textB_any ib neg z _ HI.out HIT.out).mono ?_; rintro e w' ⟨t, rfl, ht6, hB⟩; have HB := Lib.hid hB; clear hB)
  go_ret
  exact ⟨_, rfl, ht6, HB.out⟩
end Go.Proofs.YtoofphhfealcaaaGreatDoor

namespace Go.Proofs.YtoofphhfealcaaaGreatDoor
open Go.RowKit
set_option maxHeartbeats 1000000 in
theorem inner_free (si L c : Nat) (A : Option Addr) (w : World) (hc2 : w.cell? ⟨si, 0, none⟩ = some (.slice A L c)) (hf : w.frozen? ⟨si, 0, none⟩ = false) (hL : L ≤ c) (hA : A = none → c = 0) :
    Calls Tryz.prog 191 #[.pointer (some ⟨si, 0, none⟩)] w fun e w' => e = .returned (.tuple #[]) ∧ w.setCell ⟨si, 0, none⟩ (.slice A 0 c) = w' := by
  cases A with
  | none =>
    have := hA rfl
    subst this
    obtain rfl : L = 0 := by omega
    go_enter Tryz.func191, Tryz.ntmps191
    go_wp2
    go_end0
    exact ⟨rfl, rfl⟩
  | some a =>
    obtain ⟨ab, ao, asp⟩ := a
    go_enter Tryz.func191, Tryz.ntmps191
    go_wp2
    go_end0
    exact ⟨rfl, rfl⟩
set_option maxHeartbeats 1000000 in
theorem free_any (sb L : Nat) (l : List Nat) (u : FrameMode) (w : World) (h : StkAt w sb l L) : CallsD Tryz.prog 163 #[.pointer (some ⟨sb, 0, none⟩)] u w fun e u' w' => u' = u ∧ (e = .returned (.tuple #[]) ∧ Kp (sb :: l) w w') := by
  cases h with
  | none h =>
    have hc : w.cell? ⟨sb, 0, none⟩ = some (.pointer none) := by rw [cell_of_row _ _ _ _ _ _ h]; rfl
    refine (free_d sb u w hc).mono ?_
    rintro e u' w' ⟨rfl, rfl, rfl⟩
    exact ⟨rfl, rfl, Kp.refl _ _⟩
  | bare si h h2 hd =>
    have hc : w.cell? ⟨sb, 0, none⟩ = some (.pointer (some ⟨si, 0, none⟩)) := by rw [cell_of_row _ _ _ _ _ _ h]; rfl
    have HC2 := Lib.hid (show w.cell? ⟨si, 0, none⟩ = some (.slice none 0 0) by rw [cell_of_row _ _ _ _ _ _ h2]; rfl)
    have HF := Lib.hid (show w.frozen? ⟨si, 0, none⟩ = false from frozen_of_row _ _ _ _ _ h2)
    clear h h2
    go_enter_d Tryz.func163, Tryz.ntmps163
    go_wp2_with (go_at_call 191; refine (inner_free si 0 0 none _ HC2.out HF.out (by omega) (fun _ => rfl)).mono ?_; rintro e w' ⟨rfl, rfl⟩)
    go_end0
    exact ⟨rfl, (Kp.refl _ _).setCell (by simp) _⟩
  | row si b L c cur h h2 h3 hcc hL h63 hd hd2 hd3 =>
    have hc : w.cell? ⟨sb, 0, none⟩ = some (.pointer (some ⟨si, 0, none⟩)) := by rw [cell_of_row _ _ _ _ _ _ h]; rfl
    have HC2 := Lib.hid (show w.cell? ⟨si, 0, none⟩ = some (.slice (some ⟨b, 0, none⟩) L c) by rw [cell_of_row _ _ _ _ _ _ h2]; rfl)
    have HF := Lib.hid (show w.frozen? ⟨si, 0, none⟩ = false from frozen_of_row _ _ _ _ _ h2)
    clear h h2 h3
    go_enter_d Tryz.func163, Tryz.ntmps163
    go_wp2_with (go_at_call 191; refine (inner_free si L c _ _ HC2.out HF.out hL (fun h => by cases h)).mono ?_; rintro e w' ⟨rfl, rfl⟩)
    go_end0
    exact ⟨rfl, (Kp.refl _ _).setCell (by simp) _⟩
/-- The table, or none for a short number. -/
def TabV (w0 w : World) (sb : Nat) (l : List Nat) (tv : Value) (m : Nat) : Prop := (tv = .slice none 0 0 ∧ m ≤ 8) ∨ ∃ (tb k : Nat) (bb : Nat → Nat), tv = .slice (some ⟨tb, 0, none⟩) k k ∧ TabE w tb k bb ∧ 0 < k ∧ tb ∉ sb :: l ∧ (∀ i, i < k → bb i ∉ sb :: l) ∧ w0.heap.size ≤ tb ∧ ∀ i, i < k → w0.heap.size ≤ bb i
def DivU (w0 : World) (sb m : Nat) (e : Ending) (w : World) : Prop := ∃ tv l, e = .returned tv ∧ StkAt w sb l 0 ∧ Kp [sb] w0 w ∧ (∀ y ∈ l, w0.heap.size ≤ y) ∧ TabV w0 w sb l tv m
theorem divs_any (sb m : Nat) (w : World) (hS : StkAt w sb [] 0) (hm65 : m ≤ 65) (h12 : w.cell? ⟨12, 0, none⟩ = some (.int .i64 8)) (h15 : w.cell? ⟨15, 0, none⟩ = some (.int .i64 12)) (h16 : w.cell? ⟨16, 0, none⟩ = some (.int .i64 80)) (h20 : 20 ≤ sb) :
    Calls Tryz.prog 164 #[.pointer (some ⟨sb, 0, none⟩), .int .i64 m, .int .u64 10, .int .i64 19, .int .u64 10000000000000000000] w (DivU w sb m) := by
  rcases Nat.lt_or_ge 8 m with h | h
  · refine (divisors_any sb m _ w hS (by omega) hm65 rfl h12 h15 h16 h20).mono ?_
    rintro e w' ⟨tb, bb, l, rfl, hB⟩
    have hsb := hB.sbw
    have hk : 0 < (if m ≤ 17 then 1 else if m ≤ 33 then 2 else 3) := by split; omega; split <;> omega
    refine ⟨_, l, rfl, hB.stk, hB.kp, hB.lnew, .inr ⟨tb, _, bb, rfl, tab_of hB, hk, ?_, fun i hi => ?_, hB.tnew, fun i hi => (hB.bnew i hi).1⟩⟩
    · simp only [List.mem_cons]
      rintro (e | e)
      · have := hB.tnew; omega
      · exact hB.tl e
    · obtain ⟨b1, b2, b3⟩ := hB.bnew i hi
      simp only [List.mem_cons]
      rintro (e | e)
      · omega
      · exact b3 e
  · refine (divisors_nil _ m 10 _ _ w h h12).mono ?_
    rintro e w' ⟨rfl, rfl⟩
    exact ⟨_, [], rfl, hS, Kp.refl _ _, fun y hy => by simp at hy, .inl ⟨rfl, h⟩⟩
/-- The digits behind any table. -/
theorem conv_tab (sb qb qc g n : Nat) (tv : Value) (l : List Nat) (xs : List Int) (w0 w3 w : World) (hp : ConvPre w sb qb qc g n 0 n l xs) (ht : TabV w0 w3 sb l tv xs.length) (hB : Below w3.heap.size w3 w) (hq : qb = w3.heap.size) (hg : g < w0.heap.size) :
    Calls Tryz.prog 166 #[.slice (some ⟨qb, 0, none⟩) xs.length qc, .pointer (some ⟨sb, 0, none⟩), .slice (some ⟨g, 0, none⟩) n n, .int .u64 10, .int .i64 19, .int .u64 10000000000000000000, tv] w (ConvPost w sb qb qc g n 0 n l (val xs)) := by
  refine conv_gen sb qb qc g n 0 n n tv l xs w hp (Nat.le_refl _) ?_
  rcases ht with ⟨rfl, h8⟩ | ⟨tb, k, bb, rfl, h1, h2, h3, h4, h5, h6⟩
  · exact .inl ⟨rfl, h8⟩
  · have htl := reads_tab h1 h2
    refine .inr ⟨tb, k, k, bb, rfl, tab_kp h1 (kp_below hB) (by simp) (fun _ _ => by simp), Nat.le_refl _, ?_, fun i hi => ?_, .inl h2, fun t' _ => conv_all t'⟩
    · simp only [List.mem_cons] at h3 ⊢
      rintro (e | e | e)
      · omega
      · omega
      · exact h3 e
    · have hb := reads_ent h1 hi
      have h7 := h6 i hi
      have h8 := h4 i hi
      simp only [List.mem_cons] at h8 ⊢
      rintro (e | e | e)
      · omega
      · omega
      · exact h8 e
end Go.Proofs.YtoofphhfealcaaaGreatDoor

namespace Go.Proofs.YtoofphhfealcaaaGreatDoor
open Go.RowKit
theorem dig_byteRow {w : World} {g n : Nat} {x : Int} (h : Dig w g 0 n 0 x) : ByteRow w g n := fun p hp => by
  have := h p (Nat.zero_le _) hp
  rw [Nat.zero_add] at this
  obtain ⟨b, hb⟩ := dgt_byte x (n - 1 - p)
  exact ⟨b, by rw [this, hb]⟩
theorem itoaB_fin {w w4 : World} {g n u : Nat} (h : ByteRow w4 g n) (hu : u ≤ n) (hn : n ≤ 65536) (hB : Below w.heap.size w w4) : ItoaB w (.returned (.slice (some ⟨g, u, none⟩) (n - u) (n - u))) w4 := by
  obtain ⟨l, h1, h2⟩ := byteRow_list h (n - u) u (by omega)
  exact ⟨g, u, n - u, l, by rw [h1], by omega, h2, hB⟩
theorem byteRow_kp {w w' : World} {L : List Nat} {g n : Nat} (h : ByteRow w g n) (hk : Kp L w w') (hg : g ∉ L) : ByteRow w' g n := fun p hp => by
  obtain ⟨b, hb⟩ := h p hp
  exact ⟨b, hk.cell hb hg⟩
/-- What the walk has in hand behind convertWords. -/
structure ItW (w w5 : World) (sb g n : Nat) (l : List Nat) (X : Int) : Prop where
  dig : Dig w5 g 0 n 0 X
  row : RowB w5 g n
  stk : StkAt w5 sb l 0
  g0 : w.heap.size ≤ g
  sb0 : w.heap.size ≤ sb
  l0 : ∀ y ∈ l, w.heap.size ≤ y
  off : g ∉ sb :: l
  below : Below w.heap.size w w5
theorem itW_of {w W2 w3 w4 w5 : World} {sb g n C : Nat} {l : List Nat} {xs : List Int} {e : Ending} (hB2 : Below w.heap.size w W2) (hg : g = w.heap.size) (hsb : sb = w.heap.size + 1) (hs2 : W2.heap.size = w.heap.size + 2) (hk3 : Kp [sb] W2 w3) (hl : ∀ y ∈ l, W2.heap.size ≤ y) (hB4 : Below w3.heap.size w3 w4)
    (hp : ConvPost w4 sb w3.heap.size C g n 0 n l (val xs) e w5) : ∃ l', ItW w w5 sb g n l' (val xs) := by
  obtain ⟨_, l', b1, b2, b3, b4, b5, b6⟩ := hp
  have s3 := hk3.size
  have s4 := hB4.size
  have hl' : ∀ y ∈ l', W2.heap.size ≤ y := fun y hy => by
    rcases b5 y hy with h | h
    · exact hl y h
    · omega
  refine ⟨l', b1, b2.row, b4, by omega, by omega, fun y hy => by have := hl' y hy; omega, ?_, ?_⟩
  · simp only [List.mem_cons]
    rintro (e | e)
    · omega
    · have := hl' _ e; omega
  · have k1 : Kp [] w w5 := by
      refine kp_step (kp_step (kp_step (kp_below hB2) hk3 (fun y hy => .inr ?_)) (kp_below hB4) (fun y hy => by simp at hy)) b6 (fun y hy => .inr ?_)
      · obtain rfl : y = sb := by simpa using hy
        omega
      · simp only [List.mem_cons] at hy
        rcases hy with rfl | rfl | rfl | hy
        · omega
        · omega
        · omega
        · have := hl y hy; omega
    exact ⟨k1.os, k1.tape, k1.output, k1.size, fun k hk => k1.block k hk (by simp)⟩
theorem itW_pre {W2 w3 w4 : World} {sb g n C : Nat} {l : List Nat} {xs : List Int} {a ae ai au : Addr} (hG : Gl W2 a ae ai au) (hs2 : W2.heap.size = g + 2) (hsb : sb = g + 1) (hk3 : Kp [sb] W2 w3) (hst : StkAt w3 sb l 0) (hl : ∀ y ∈ l, W2.heap.size ≤ y) (hB4 : Below w3.heap.size w3 w4)
    (hN : NatB w4 w3.heap.size C xs) (hC : C ≤ xs.length + 4) (hx : xs.length ≤ 63) (hw : Words xs) (hn : nrm xs = xs) (hlt : val xs < ten n) (hn1 : n ≤ 4034) (hg : W2.heap[g]? = some (.cells (madeCells #[.int .u8 0] n) 5 (0, 0))) (h20 : 20 ≤ g) : ConvPre w4 sb w3.heap.size C g n 0 n l xs := by
  have s3 := hk3.size
  have k34 : Kp [] w3 w4 := kp_below hB4
  have hgb : g < w3.heap.size := by omega
  have hg4 : w4.heap[g]? = some (.cells (madeCells #[.int .u8 0] n) 5 (0, 0)) := by rw [hB4.block g hgb, hk3.block g (by omega) (by simp; omega)]; exact hg
  have hsl := stk_lt hst
  have c12 : w4.cell? ⟨12, 0, none⟩ = some (.int .i64 8) := k34.cell (hk3.cell hG.leaf (by simp; omega)) (by simp)
  have c17 : w4.cell? ⟨17, 0, none⟩ = some (.int .i64 40) := k34.cell (hk3.cell hG.drt (by simp; omega)) (by simp)
  refine ⟨stk_kp hst k34 (by simp), hN, by omega, hw, hn, by omega, hlt, ⟨_, hg4, size_madeCells _ _⟩, by omega, by omega, fun h => ?_, ?_, by omega, fun y hy => ?_, by have := hB4.size; omega, c12, c17⟩
  · have := hsl _ h
    omega
  · simp only [List.mem_cons]
    rintro (e | e)
    · omega
    · have := hl _ e; omega
  · simp only [List.mem_cons] at hy
    rcases hy with rfl | rfl | rfl | hy
    · omega
    · omega
    · omega
    · have := hl y hy; omega
set_option maxRecDepth 100000 in
set_option maxHeartbeats 8000000 in
theorem itoa_big (b c : Nat) (xs : List Int) (neg : Bool) (w : World) (a ae ai au : Addr) (hG : Gl w a ae ai au) (hW : Words xs) (hnn : nrm xs = xs) (hx0 : 0 < xs.length) (hx63 : xs.length ≤ 63) (hb : b < w.heap.size) (hR : Reads w b 0 xs) :
    Calls Tryz.prog 143 #[.slice (some ⟨b, 0, none⟩) xs.length c, .bool neg, .int .i64 10] w (ItoaB w) := by
  have hw20 := hG.size
  obtain ⟨bl1, bl2, bl3⟩ := bl_bounds hW hnn hx0
  have hblo : blOf xs ≤ 4032 := by
    unfold blOf
    have := bitLen_le64 (xs.getLastD 0).toNat (by
      have h1 : xs.getLastD 0 = xs[xs.length - 1] := by rw [List.getLastD_eq_getLast?, List.getLast?_eq_getElem?, List.getElem?_eq_getElem (by omega)]; rfl
      rw [h1]
      have := hW xs[xs.length - 1] (List.getElem_mem _)
      unfold BW at this
      omega)
    omega
  obtain ⟨d, hd1, hd2, r, hr1, hr2⟩ := dg_all (blOf xs) (by omega)
  obtain ⟨X, hX⟩ : ∃ X, X = val xs := ⟨_, rfl⟩
  have hX0 : 0 < X := by rw [hX]; exact val_pos xs hW hnn hx0
  have hXd : X < ten (d + 1) := by
    rw [hX]
    unfold ten
    have : ((2 : Int) ^ blOf xs) ≤ 10 ^ (d + 1) := by exact_mod_cast hd2
    omega
  have HX := Lib.hid hX; have HXD := Lib.hid hXd; have HG := Lib.hid hG; have HW := Lib.hid hW; have HNN := Lib.hid hnn; have HR := Lib.hid hR
  have hq1 := fun W => run_float_arith (P := Tryz.prog) W .quo 245 .f64 _ _ r hr1
  have hq2 := fun W => run_convert_float_int (P := Tryz.prog) W 245 3 .f64 .i64 r (d : Int) (by kernel_rfl) (by kernel_rfl) hr2
  have hq3 : ∀ W, (convert 3 245 (.int .i64 10)).run Tryz.prog W = .ok (.float .f64 F10) W := fun W => by kernel_rfl
  have hq4 : ∀ W, (convert 3 245 (.int .i64 (blOf xs : Int))).run Tryz.prog W = .ok (.float .f64 (floatOfInt .f64 (blOf xs : Int))) W := fun W => run_convert_int_float (P := Tryz.prog) W 3 245 .i64 .f64 _ (by kernel_rfl) (by kernel_rfl)
  clear hG hR hW hnn hd2 hr1 hr2 hX hXd bl1 bl2 bl3
  generalize hbl2 : blOf xs = bl at hq1 hq4 hblo hd1
  have HBL := Lib.hid hbl2
  clear hbl2
  generalize floatOfInt .f64 (bl : Int) = F at hq1 hq4
  have hx0' : ((xs.length : Int) == 0) = false := by rw [beq_eq_false_iff_ne]; omega
  go_enter_defers Tryz.func143, Tryz.ntmps143
  go_upto_if 41 with (first
    | (go_at_call 159; refine (bitLen_any b c xs _ hx0 (by omega) HR.out HW.out).mono ?_; rintro e w' ⟨rfl, rfl⟩; rw [HBL.out])
    | (go_at_call 160; refine (Log2_ten _).mono ?_; rintro e w' ⟨rfl, rfl⟩))
  obtain ⟨n, hn1, hn2, hn3, hn4⟩ : ∃ n : Nat, d + 1 ≤ n ∧ n ≤ 4034 ∧ Hid (neg = true → n = d + 2) ∧ Hid (neg = false → n = d + 1) := by
    cases neg
    · exact ⟨d + 1, by omega, by omega, fun h => (by cases h), fun _ => rfl⟩
    · exact ⟨d + 2, by omega, by omega, fun _ => rfl, fun h => (by cases h)⟩
  go_cut [7] from 42 to 43 (fun i wx => i = .int .i64 (n : Int) ∧ wx = w)
  case first =>
    cases neg
    · have h1 : (n : Int) = (d : Int) + 1 := by have := hn4.out rfl; omega
      have H1 := Lib.hid h1
      clear h1
      go_wp2_with fail
      go_meet
      exact ⟨by rw [H1.out], rfl⟩
    · have h1 : (n : Int) = (d : Int) + 1 + 1 := by have := hn3.out rfl; omega
      have H1 := Lib.hid h1
      clear h1
      go_wp2_with fail
      go_meet
      exact ⟨by rw [H1.out], rfl⟩
  case rest =>
    obtain ⟨rfl, rfl⟩ := hcut
    have hmk := fun W => make_bytes n (by omega) W
    have hbit : ∀ W, (binOp .and 156 (.int .u64 10) (.int .u64 18446744073709551606)).run Tryz.prog W = .ok (.int .u64 2) W := fun W => by kernel_rfl
    clear hq1 hq2 hq3 hq4 HBL
    go_upto_region 35 with fail
    obtain ⟨W1, hW1⟩ : ∃ W1, W1 = wc.alloc (.cells (madeCells #[.int .u8 0] n) 5) := ⟨_, rfl⟩
    obtain ⟨W2, hW2⟩ : ∃ W2, W2 = W1.alloc (.cells #[.pointer none] 273) := ⟨_, rfl⟩
    have hs1 : W1.heap.size = wc.heap.size + 1 := by rw [hW1, World.size_alloc]
    have hs2 : W2.heap.size = wc.heap.size + 2 := by rw [hW2, World.size_alloc, hs1]
    have hB1 : Below wc.heap.size wc W1 := by rw [hW1]; exact (Below.refl _ _).alloc (Nat.le_refl _) _
    have hB2 : Below wc.heap.size wc W2 := by rw [hW2]; exact hB1.alloc (by omega) _
    have hg2 : W2.heap[wc.heap.size]? = some (.cells (madeCells #[.int .u8 0] n) 5 (0, 0)) := by
      rw [hW2, heap_alloc_old W1 _ (by omega), hW1]
      exact heap_alloc_new wc _
    have hk2 : W2.heap[wc.heap.size + 1]? = some (.cells #[.pointer none] 273 (0, 0)) := by
      rw [hW2, ← hs1]
      exact heap_alloc_new W1 _
    have hR2 : Reads W2 b 0 xs := fun j hj => by
      rw [hB2.cell (p := ⟨b, 0 + j, none⟩) hb]
      exact HR.out j hj
    have hG2 := gl_below HG.out hB2
    have HB2 := Lib.hid hB2; have HG2 := Lib.hid hG2; have HR2 := Lib.hid hR2; have HK2 := Lib.hid hk2; have HGB := Lib.hid hg2; have HW1 := Lib.hid hW1; have HW2 := Lib.hid hW2
    have HS0 : Hid (StkAt W2 (wc.heap.size + 1) [] 0) := .none hk2
    rw [← hW1]
    clear hW1 hW2 hB1 hB2 hg2 hk2 hR2 hG2 hmk hbit HR HG
    go_upto_region 37 with (go_at_call 162; refine (getStack_any _).mono ?_; rintro e w' ⟨rfl, h⟩; rw [← HW2.out] at h; subst h)
    have hsz2 : (madeCells #[.int .u8 0] n).size = n := size_madeCells _ _
    have HSZ := Lib.hid hsz2
    clear hsz2
    have HDV := Lib.hid (divs_any (wc.heap.size + 1) xs.length W2 HS0.out (by omega) HG2.out.leaf HG2.out.bsq HG2.out.ksq (by omega))
    go_upto_region 40 with (first
      | (go_at_call 150; refine (maxPow10 _).mono ?_; rintro e w' ⟨rfl, rfl⟩)
      | (go_at_call 164; refine HDV.out.mono ?_; rintro e w3 ⟨tv, l, rfl, hst3, hk3, hl3, ht3⟩; have HR3 : Hid (Reads w3 b 0 xs) := reads_kp HR2.out hk3 (by simp; omega); have hb3 : b < w3.heap.size := (by have := hk3.size; omega); have H3 := Lib.hid (And.intro hst3 (And.intro hk3 (And.intro hl3 ht3))); clear hst3 hk3 hl3 ht3)
      | (go_at_call 165; refine (set_any b c xs _ hx0 (by omega) hb3 HR3.out).mono ?_; rintro e w4 ⟨C, rfl, hN4, hC, hB4⟩; have HN4 := Lib.hid hN4; have HB4 := Lib.hid hB4; have HC4 := Lib.hid hC; clear hN4 hB4 hC))
    obtain ⟨hst3, hk3, hl3, ht3⟩ := H3.out
    have HCV := Lib.hid (conv_tab (wc.heap.size + 1) w3.heap.size C wc.heap.size n tv l xs W2 w3 w4 (itW_pre HG2.out hs2 rfl hk3 hst3 hl3 HB4.out HN4.out HC4.out hx63 HW.out HNN.out (by rw [← HX.out]; have := ten_mono hn1; have := HXD.out; omega) hn2 HGB.out hw20) ht3 HB4.out rfl (by omega))
    clear hst3 hk3 hl3 ht3
    go_upto_region 41 with (go_at_call 166; refine HCV.out.mono ?_; rintro e w5 hp; obtain ⟨⟨v, rfl⟩, hp2⟩ := hp; have HP5 : Hid (∃ l', ItW wc w5 (wc.heap.size + 1) wc.heap.size n l' (val xs)) := itW_of HB2.out rfl rfl hs2 H3.out.2.1 H3.out.2.2.1 HB4.out ⟨⟨v, rfl⟩, hp2⟩; clear hp2)
    obtain ⟨l', hi⟩ := HP5.out
    rw [← HX.out] at hi
    have HI := Lib.hid hi
    clear hi HP5 HCV HDV H3 HN4 HB4 HC4 HR2 HG2 HB2 HS0 HK2 HGB
    go_upto_region 42 with fail
    clear HR3 hb3 HW1 HW2 hs1 hs2 HSZ HX HW HNN hx0' hblo hd1
    go_loopw [7] (fun i wx => ∃ u : Nat, i = .int .i64 u ∧ u < n ∧ Hid (∀ p, p < u → dgt X (n - 1 - p) = 48) ∧ w5 = wx) (fun i _ => n - (intOf i).toNat)
    case atStart => exact ⟨0, rfl, by omega, fun p hp => absurd hp (by omega), rfl⟩
    case round =>
      obtain ⟨u, rfl, hu, HZ, rfl⟩ := hrel
      obtain ⟨D, hD⟩ : ∃ D, D = dgt X (n - 1 - u) := ⟨_, rfl⟩
      have hcu : w5.cell? ⟨wc.heap.size, u, none⟩ = some (.int .u8 D) := by
        have := HI.out.dig u (Nat.zero_le _) hu
        rw [Nat.zero_add] at this
        rw [this, hD]
      have HDD := Lib.hid hD
      clear hD
      by_cases h48 : D = 48
      · subst h48
        have hu1 : u + 1 < n := by
          obtain ⟨e, he, hne⟩ := some_digit X (d + 1) hX0 HXD.out
          refine Classical.byContradiction fun hno => hne ?_
          have e1 : n - 1 - (n - 1 - e) = e := by omega
          by_cases h2 : n - 1 - e = u
          · rw [← e1, h2]
            exact HDD.out.symm
          · rw [← e1]
            exact HZ.out _ (by omega)
        go_wp2_with fail
        refine ⟨⟨u + 1, by go_num, hu1, fun p hp => ?_, trivial⟩, by simp [intOf] <;> omega⟩
        by_cases h2 : p = u
        · subst h2
          exact HDD.out.symm
        · exact HZ.out p (by omega)
      · have hb48 : ((D : Int) == 48) = false := by rw [beq_eq_false_iff_ne]; exact h48
        have H48 := Lib.hid h48
        clear h48
        have HBR := Lib.hid (dig_byteRow HI.out.dig)
        have hpos : ∀ y ∈ (wc.heap.size + 1) :: l', wc.heap.size ≤ y := fun y hy => by
          rcases List.mem_cons.1 hy with e | e
          · omega
          · exact HI.out.l0 y e
        have HPO := Lib.hid hpos
        clear hpos
        cases neg
        · go_wp2_with fail
          refine leaves_cons (f := 163) (args := #[.pointer (some ⟨wc.heap.size + 1, 0, none⟩)]) (by simp) (by simp [go_sem]) ?_
          refine (free_any (wc.heap.size + 1) 0 l' .returning _ HI.out.stk).mono ?_
          rintro e u' w'' ⟨rfl, rfl, hk6⟩
          exact ⟨.slice (some ⟨wc.heap.size, u, none⟩) (n - u) (n - u), by simp [results, Tryz.results143, go_sem], itoaB_fin (byteRow_kp HBR.out hk6 HI.out.off) (by omega) (by omega) (kp_new hk6 HI.out.below HPO.out)⟩
        · have hu0 : u ≠ 0 := fun e => by
            subst e
            have h1 := HDD.out
            have h2 := hn3.out rfl
            rw [show n - 1 - 0 = d + 1 by omega] at h1
            refine H48.out ?_
            rw [h1]
            unfold dgt
            rw [Int.ediv_eq_zero_of_lt (by omega) HXD.out]
            rfl
          obtain ⟨v, rfl⟩ := Nat.exists_eq_succ_of_ne_zero hu0
          rw [Nat.succ_eq_add_one] at *
          obtain ⟨⟨c0, hc0⟩, hf0⟩ := rowB_cell HI.out.row v (by omega)
          have hvn : v < n := by omega
          have HSK : Hid (StkAt (w5.setCell ⟨wc.heap.size, v, none⟩ (.int .u8 45)) (wc.heap.size + 1) l' 0) := stk_kp HI.out.stk ((Kp.refl [wc.heap.size] w5).setCell (by simp) _) (fun y hy hm => HI.out.off (by rw [List.mem_singleton] at hm; subst hm; exact hy))
          go_wp2_with fail
          refine leaves_cons (f := 163) (args := #[.pointer (some ⟨wc.heap.size + 1, 0, none⟩)]) (by simp) (by simp [go_sem]) ?_
          refine (free_any (wc.heap.size + 1) 0 l' .returning _ HSK.out).mono ?_
          rintro e u' w'' ⟨rfl, rfl, hk6⟩
          exact ⟨.slice (some ⟨wc.heap.size, v, none⟩) (n - v) (n - v), by simp [results, Tryz.results143, go_sem], itoaB_fin (byteRow_kp (byteRow_set HBR.out hvn 45) hk6 HI.out.off) (by omega) (by omega) (kp_new hk6 (HI.out.below.setCell (Nat.le_refl _) _) HPO.out)⟩
end Go.Proofs.YtoofphhfealcaaaGreatDoor

namespace Go.Proofs.YtoofphhfealcaaaGreatDoor
open Go.RowKit
set_option maxRecDepth 100000 in
set_option maxHeartbeats 4000000 in
theorem itoaB_zero (A : Option Addr) (c : Nat) (neg : Bool) (w : World) : Calls Tryz.prog 143 #[.slice A 0 c, .bool neg, .int .i64 10] w (ItoaB w) := by
  have hcv := Lib.run_convert_bytes_const (P := Tryz.prog) w 148 5 #[.int .u8 48] 1 1 und148k und5
  go_enter_defers Tryz.func143, Tryz.ntmps143
  go_wp2_with fail
  refine ⟨.slice (some ⟨w.heap.size, 0, none⟩) 1 1, by simp [results, Tryz.results143, go_sem], ?_⟩
  refine ⟨w.heap.size, 0, 1, [48], rfl, by simp, fun j hj => ?_, (Below.refl _ _).alloc (Nat.le_refl _) _⟩
  have : j = 0 := by simp at hj; omega
  subst this
  rw [Nat.zero_add]
  exact World.cell?_alloc_mark w _ 5 _ 0
theorem ten1200 : ten 1200 < (BW : Int) ^ 63 := by unfold ten BW; decide +kernel
theorem strB_1200 : StrB 1200 := by
  intro w base p s a ae ai au hG hB hn hs
  obtain ⟨z, xs, n2, b1, b2, b3, b4, b5, b6, b7⟩ := hB.ex
  refine stringB_any p n2 z w b1 (fun W hW hBW => ?_)
  have hv := hn
  unfold isNum at hv
  rw [Bool.and_eq_true] at hv
  obtain ⟨v0, v1⟩ := decV_le _ _ rfl hv.2
  have hlen : (body (bs s)).length ≤ 1200 := by
    have h1 : (body (bs s)).length ≤ (bs s).length := by
      rw [← drop_from]
      simp
    rw [bs_len] at h1
    omega
  have v2 := ten_mono hlen
  have h63 : xs.length ≤ 63 := by
    refine Classical.byContradiction fun hc => ?_
    obtain ⟨k, hk⟩ : ∃ k, xs.length = k + 1 := ⟨xs.length - 1, by omega⟩
    have h1 := top_ge b3 b4 hk
    have h2 := bwp_mono (show 63 ≤ k by omega)
    have h3 := ten1200
    rw [b5] at h1
    generalize ten 1200 = A at *
    generalize (BW : Int) ^ 63 = B at *
    generalize (BW : Int) ^ k = C at *
    omega
  by_cases h0 : xs.length = 0
  · rw [List.length_eq_zero_iff] at h0
    subst h0
    rcases nat_cases b2 with ⟨rfl, _⟩ | ⟨b, c, cur, rfl, _⟩
    · exact itoaB_zero none 0 n2 W
    · exact itoaB_zero _ c n2 W
  · rcases nat_cases b2 with ⟨_, h⟩ | ⟨b, c, cur, rfl, h1, h2, h3, h4, h5, h6, h7⟩
    · rw [h] at h0; simp at h0
    · refine itoa_big b c xs n2 W a ae ai au (gl_below hG hBW) b3 b4 (by omega) h63 (by have := hBW.size; omega) (fun j hj => ?_)
      rw [hBW.cell (p := ⟨b, 0 + j, none⟩) h2]
      exact h7 j hj
theorem strOK_of {n : Nat} (h : StrB n) : StrOK n := fun w base p s a ae ai au h1 h2 h3 h4 => (h w base p s a ae ai au h1 h2 h3 h4).mono fun _ _ ⟨t, ht, _, hB⟩ => ⟨t, ht, hB⟩
end Go.Proofs.YtoofphhfealcaaaGreatDoor
