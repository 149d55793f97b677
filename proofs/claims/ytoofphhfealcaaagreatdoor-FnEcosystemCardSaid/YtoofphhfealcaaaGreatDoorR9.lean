/-
  WALKS: the stack of temporaries: nat.
-/
import Derived.Test.YtoofphhfealcaaaGreatDoorR8
namespace Go.Proofs.YtoofphhfealcaaaGreatDoor
open Go.RowKit

/-- What nat of the stack leaves: n words of room from L on in the row g. -/
structure NatPost (w w' : World) (sb : Nat) (l : List Nat) (L nr n si g : Nat) : Prop where
  stk : StkAt w' sb [si, g] (L + nr)
  room : Room w' g L n
  kp : Kp (sb :: l) w w'
  new : ∀ x ∈ [si, g], x ∈ l ∨ w.heap.size ≤ x
  rds : ∀ b o xs, Reads w b o xs → (b ∈ l → o + xs.length ≤ L) → Reads w' b o xs
set_option maxRecDepth 100000 in
set_option maxHeartbeats 4000000 in
theorem inner_fit (si b L c n nr : Nat) (cur : Array Value) (w : World) (h2 : w.heap[si]? = some (.cells #[.slice (some ⟨b, 0, none⟩) L c] 300 (0, 0))) (h3 : w.heap[b]? = some (.cells cur 156 (0, 0))) (hcc : cur.size = c) (hd : si ≠ b)
    (h0 : 0 < n) (hnr : bits .andNot .i64 ((n : Int) + 3) 3 = (nr : Int)) (hn : n ≤ nr) (hn2 : nr ≤ 1048576) (hfit : L + nr ≤ c) (h63 : c ≤ 9223372036854775807) :
    Calls Tryz.prog 267 #[.pointer (some ⟨si, 0, none⟩), .int .i64 n] w fun e w' => e = .returned (.slice (some ⟨b, L, none⟩) n n) ∧ (((w.setCell ⟨si, 0, none⟩ (.slice (some ⟨b, 0, none⟩) L c)).setCell ⟨si, 0, none⟩ (.slice (some ⟨b, 0, none⟩) (L + nr) c)).setCell ⟨b, L, none⟩ (.int .u64 1043915)) = w' := by
  have hc2 : w.cell? ⟨si, 0, none⟩ = some (.slice (some ⟨b, 0, none⟩) L c) := by rw [cell_of_row _ _ _ _ _ _ h2]; rfl
  have hf : w.frozen? ⟨si, 0, none⟩ = false := frozen_of_row _ _ _ _ _ h2
  have hcb : w.cell? ⟨b, L, none⟩ = some cur[L] := by rw [cell_of_row _ _ _ _ _ _ h3]; simp
  have hfb : w.frozen? ⟨b, L, none⟩ = false := frozen_of_row _ _ _ _ _ h3
  generalize cur[L] = u at hcb
  clear h2 h3 hcc
  go_enter Tryz.func267, Tryz.ntmps267
  go_wp2_with (go_at_call 282; refine (grow_room (some ⟨b, 0, none⟩) L c nr _ (by omega) h63 hfit).mono ?_; rintro e w' ⟨rfl, rfl⟩)
  go_ret
  exact ⟨by rw [show L + n - L = n by omega]; rfl, rfl⟩
set_option maxRecDepth 100000 in
set_option maxHeartbeats 4000000 in
theorem inner_grow (si L c n nr : Nat) (A : Option Addr) (cs : List Value) (w : World) (h2 : w.heap[si]? = some (.cells #[.slice A L c] 300 (0, 0))) (hL : L ≤ c) (hcl : cs.length = c) (hnil : A = none → c = 0) (hcs : ∀ a, A = some a → ∀ j v, cs[j]? = some v → w.cell? (a.add j) = some v)
    (h0 : 0 < n) (hnr : bits .andNot .i64 ((n : Int) + 3) 3 = (nr : Int)) (hn : n ≤ nr) (hn2 : L + nr ≤ 1048576) (hfit : c < L + nr) :
    Calls Tryz.prog 267 #[.pointer (some ⟨si, 0, none⟩), .int .i64 n] w fun e w' => e = .returned (.slice (some ⟨w.heap.size, L, none⟩) n n) ∧ ∃ (G : Nat) (zs : List Value), L + nr ≤ G ∧ G ≤ 9223372036854775807 ∧ (cs ++ zs).length = G ∧
      ((((w.drew.alloc (.cells (cs ++ zs).toArray 156)).setCell ⟨si, 0, none⟩ (.slice (some ⟨w.heap.size, 0, none⟩) L G)).setCell ⟨si, 0, none⟩ (.slice (some ⟨w.heap.size, 0, none⟩) (L + nr) G)).setCell ⟨w.heap.size, L, none⟩ (.int .u64 1043915)) = w' := by
  have hsi : si < w.heap.size := (Array.getElem?_eq_some_iff.1 h2).1
  have hc2 : w.cell? ⟨si, 0, none⟩ = some (.slice A L c) := by rw [cell_of_row _ _ _ _ _ _ h2]; rfl
  have HALL : Hid (∀ (cs' : Array Value) (W : World), w.drew.alloc (.cells cs' 156) = W → L < cs'.size → W.cell? ⟨si, 0, none⟩ = some (.slice A L c) ∧ W.frozen? ⟨si, 0, none⟩ = false ∧ (∃ u, W.cell? ⟨w.heap.size, L, none⟩ = some u) ∧ W.frozen? ⟨w.heap.size, L, none⟩ = false ∧ si ≠ w.heap.size) := by
    rintro cs' W rfl hj
    have e1 : (w.drew.alloc (.cells cs' 156)).heap[si]? = some (.cells #[.slice A L c] 300 (0, 0)) := by
      rw [heap_alloc_old w.drew _ hsi]
      exact h2
    have e2 : (w.drew.alloc (.cells cs' 156)).heap[w.heap.size]? = some (.cells cs' 156 (0, 0)) := heap_alloc_new w.drew _
    refine ⟨by rw [cell_of_row _ _ _ _ _ _ e1]; rfl, frozen_of_row _ _ _ _ _ e1, ⟨cs'[L], ?_⟩, frozen_of_row _ _ _ _ _ e2, by omega⟩
    rw [cell_of_row _ _ _ _ _ _ e2, Array.getElem?_eq_getElem hj]
  have HCS := Lib.hid hcs
  have HSI := Lib.hid hsi
  clear h2 hcs hsi
  go_enter Tryz.func267, Tryz.ntmps267
  generalize hS : w.heap.size = S at *
  have HS := Lib.hid hS
  clear hS
  go_wp2_with (go_at_call 282; refine (grow_new A L c nr cs _ hL hfit hn2 hcl hnil HCS.out).mono ?_; rw [HS.out]; rintro e w' ⟨G, g1, g2, rfl, zs, g3, hw⟩; obtain ⟨a1, a2, ⟨u, a3⟩, a4, a5⟩ := HALL.out (cs ++ zs).toArray w' hw (by simp only [List.size_toArray]; omega); have G3 := Lib.hid g3; have HW := Lib.hid hw; clear g3 hw)
  go_ret
  exact ⟨by rw [show L + n - L = n by omega]; rfl, G, zs, g1, g2, by have := G3.out; simpa using this, by rw [HW.out]⟩
theorem reads_lt {w : World} {b o : Nat} {xs : List Int} (h : Reads w b o xs) (h0 : 0 < xs.length) : b < w.heap.size := World.block_lt_of_cell? w ⟨b, o + 0, none⟩ (h 0 h0)
/-- No words stand in a block of one cell of another kind. -/
theorem reads_not {w : World} {b o : Nat} {xs : List Int} {v : Value} {t : TypeId} (h : Reads w b o xs) (hb : w.heap[b]? = some (.cells #[v] t (0, 0))) (hv : ∀ z, v ≠ .int .u64 z) : xs = [] := by
  rcases xs with _ | ⟨x, r⟩
  · rfl
  · exfalso
    have h1 := h 0 (by simp)
    rw [cell_of_row _ _ _ _ _ _ hb] at h1
    obtain ⟨h2, h3⟩ := Array.getElem?_eq_some_iff.1 h1
    simp at h2
    subst h2
    exact hv x (by simpa using h3)
theorem reads_nil (w : World) (b o : Nat) : Reads w b o [] := fun j hj => absurd hj (by simp)
/-- The stack's words' block, by its own blocks. -/
theorem nat_fit {w : World} {sb si b L c nr n : Nat} {cur : Array Value} (h : w.heap[sb]? = some (.cells #[.pointer (some ⟨si, 0, none⟩)] 273 (0, 0))) (h2 : w.heap[si]? = some (.cells #[.slice (some ⟨b, 0, none⟩) L c] 300 (0, 0))) (h3 : w.heap[b]? = some (.cells cur 156 (0, 0)))
    (hc : cur.size = c) (hc63 : c ≤ 9223372036854775807) (hd : sb ≠ si) (hd2 : sb ≠ b) (hd3 : si ≠ b) (hn : n ≤ nr) (hfit : L + nr ≤ c) :
    NatPost w (((w.setCell ⟨si, 0, none⟩ (.slice (some ⟨b, 0, none⟩) L c)).setCell ⟨si, 0, none⟩ (.slice (some ⟨b, 0, none⟩) (L + nr) c)).setCell ⟨b, L, none⟩ (.int .u64 1043915)) sb [si, b] L nr n si b := by
  have e1 : (((w.setCell ⟨si, 0, none⟩ (.slice (some ⟨b, 0, none⟩) L c)).setCell ⟨si, 0, none⟩ (.slice (some ⟨b, 0, none⟩) (L + nr) c)).setCell ⟨b, L, none⟩ (.int .u64 1043915)).heap[sb]? = some (.cells #[.pointer (some ⟨si, 0, none⟩)] 273 (0, 0)) := by
    rw [Below.heap_setCell _ _ _ _ (by simpa using hd2), Below.heap_setCell _ _ _ _ (by simpa using hd), Below.heap_setCell _ _ _ _ (by simpa using hd)]
    exact h
  have e2 : (((w.setCell ⟨si, 0, none⟩ (.slice (some ⟨b, 0, none⟩) L c)).setCell ⟨si, 0, none⟩ (.slice (some ⟨b, 0, none⟩) (L + nr) c)).setCell ⟨b, L, none⟩ (.int .u64 1043915)).heap[si]? = some (.cells #[.slice (some ⟨b, 0, none⟩) (L + nr) c] 300 (0, 0)) := by
    rw [Below.heap_setCell _ _ _ _ (by simpa using hd3)]
    exact heap_setCell_at _ _ _ _ _ _ _ (heap_setCell_at _ _ _ _ _ _ _ h2)
  have e3 : (((w.setCell ⟨si, 0, none⟩ (.slice (some ⟨b, 0, none⟩) L c)).setCell ⟨si, 0, none⟩ (.slice (some ⟨b, 0, none⟩) (L + nr) c)).setCell ⟨b, L, none⟩ (.int .u64 1043915)).heap[b]? = some (.cells (cur.setIfInBounds L (.int .u64 1043915)) 156 (0, 0)) := by
    refine heap_setCell_at _ _ _ _ _ _ _ ?_
    rw [Below.heap_setCell _ _ _ _ (by simpa using (Ne.symm hd3)), Below.heap_setCell _ _ _ _ (by simpa using (Ne.symm hd3))]
    exact h3
  refine ⟨.row si b (L + nr) c _ e1 e2 e3 (by simpa using hc) hfit hc63 hd hd2 hd3, fun j hj => ?_, ((((Kp.refl _ _).setCell (by simp) _).setCell (by simp) _).setCell (by simp) _), fun x hx => .inl hx, fun b' o xs hr hle => ?_⟩
  · rw [cell_of_row _ _ _ _ _ _ e3]
    refine ⟨⟨_, Array.getElem?_eq_getElem (by simp; omega)⟩, frozen_of_row _ _ _ _ _ e3⟩
  · by_cases hs : b' = si
    · subst hs
      rw [reads_not hr h2 (fun z => by simp)]
      exact reads_nil _ _ _
    · intro j hj
      rw [World.cell?_setCell_other _ _ _ _ (by
        intro e
        simp at e
        have := hle (by simp [← e.1])
        omega), World.cell?_setCell_other _ _ _ _ (by intro e; exact hs (congrArg Addr.block e).symm), World.cell?_setCell_other _ _ _ _ (by intro e; exact hs (congrArg Addr.block e).symm)]
      exact hr j hj
theorem nat_grow {w w' : World} {sb si L c nr n G : Nat} {l : List Nat} {A : Option Addr} {cs zs : List Value} (h : w.heap[sb]? = some (.cells #[.pointer (some ⟨si, 0, none⟩)] 273 (0, 0))) (h2 : w.heap[si]? = some (.cells #[.slice A L c] 300 (0, 0)))
    (hsl : si ∈ l) (hd : sb ≠ si) (hn : n ≤ nr) (hG : L + nr ≤ G) (hG63 : G ≤ 9223372036854775807) (hcz : (cs ++ zs).length = G)
    (hw : ((((w.drew.alloc (.cells (cs ++ zs).toArray 156)).setCell ⟨si, 0, none⟩ (.slice (some ⟨w.heap.size, 0, none⟩) L G)).setCell ⟨si, 0, none⟩ (.slice (some ⟨w.heap.size, 0, none⟩) (L + nr) G)).setCell ⟨w.heap.size, L, none⟩ (.int .u64 1043915)) = w') :
    NatPost w w' sb l L nr n si w.heap.size := by
  have hsb : sb < w.heap.size := (Array.getElem?_eq_some_iff.1 h).1
  have hsi : si < w.heap.size := (Array.getElem?_eq_some_iff.1 h2).1
  have e1 : w'.heap[sb]? = some (.cells #[.pointer (some ⟨si, 0, none⟩)] 273 (0, 0)) := by
    rw [← hw, Below.heap_setCell _ _ _ _ (by simp; omega), Below.heap_setCell _ _ _ _ (by simpa using hd), Below.heap_setCell _ _ _ _ (by simpa using hd), heap_alloc_old w.drew _ hsb]
    exact h
  have e2 : w'.heap[si]? = some (.cells #[.slice (some ⟨w.heap.size, 0, none⟩) (L + nr) G] 300 (0, 0)) := by
    rw [← hw, Below.heap_setCell _ _ _ _ (by simp; omega)]
    refine heap_setCell_at _ _ _ _ _ _ _ (heap_setCell_at _ _ _ _ #[.slice A L c] _ _ ?_)
    rw [heap_alloc_old w.drew _ hsi]
    exact h2
  have e3 : w'.heap[w.heap.size]? = some (.cells ((cs ++ zs).toArray.setIfInBounds L (.int .u64 1043915)) 156 (0, 0)) := by
    rw [← hw]
    refine heap_setCell_at _ _ _ _ _ _ _ ?_
    rw [Below.heap_setCell _ _ _ _ (by simp; omega), Below.heap_setCell _ _ _ _ (by simp; omega)]
    exact heap_alloc_new w.drew _
  have hk : Kp (sb :: l) w w' := by
    refine ⟨by rw [← hw]; rfl, by rw [← hw]; rfl, by rw [← hw]; rfl, by rw [← hw]; simp, fun k hk hkn => ?_⟩
    rw [← hw, Below.heap_setCell _ _ _ _ (by simp; omega), Below.heap_setCell _ _ _ _ (by simp only [ne_eq]; rintro rfl; simp [hsl] at hkn), Below.heap_setCell _ _ _ _ (by simp only [ne_eq]; rintro rfl; simp [hsl] at hkn), heap_alloc_old w.drew _ hk]
    rfl
  refine ⟨.row si w.heap.size (L + nr) G _ e1 e2 e3 (by simpa using hcz) hG hG63 hd (by omega) (by omega), fun j hj => ?_, hk, fun x hx => ?_, fun b' o xs hr hle => ?_⟩
  · rw [cell_of_row _ _ _ _ _ _ e3]
    have hsz : ((cs ++ zs).toArray.setIfInBounds L (.int .u64 1043915)).size = G := by simpa using hcz
    refine ⟨⟨_, Array.getElem?_eq_getElem (by rw [hsz]; omega)⟩, frozen_of_row _ _ _ _ _ e3⟩
  · simp at hx
    rcases hx with rfl | rfl
    · exact .inl hsl
    · exact .inr (Nat.le_refl _)
  · by_cases hx0 : 0 < xs.length
    · have hb := reads_lt hr hx0
      by_cases hs : b' = si
      · subst hs
        rw [reads_not hr h2 (fun z => by simp)]
        exact reads_nil _ _ _
      · intro j hj
        rw [World.cell?_of_block (w' := w') (w := w)]
        · exact hr j hj
        · rw [← hw, Below.heap_setCell _ _ _ _ (by simp; omega), Below.heap_setCell _ _ _ _ (by simpa using hs), Below.heap_setCell _ _ _ _ (by simpa using hs), heap_alloc_old w.drew _ hb]
          rfl
    · have : xs = [] := List.eq_nil_of_length_eq_zero (by omega)
      subst this
      exact reads_nil _ _ _
theorem nat_bare {w : World} {sb si n nr : Nat} (h : w.heap[sb]? = some (.cells #[.pointer (some ⟨si, 0, none⟩)] 273 (0, 0))) (h2 : w.heap[si]? = some (.cells #[.slice none 0 0] 300 (0, 0))) (hd : sb ≠ si)
    (h0 : 0 < n) (hnr : bits .andNot .i64 ((n : Int) + 3) 3 = (nr : Int)) (hn : n ≤ nr) (hn2 : nr ≤ 1048576) :
    Calls Tryz.prog 267 #[.pointer (some ⟨si, 0, none⟩), .int .i64 n] w fun e w' => ∃ g, e = .returned (.slice (some ⟨g, 0, none⟩) n n) ∧ NatPost w w' sb [si] 0 nr n si g := by
  refine (inner_grow si 0 0 n nr none [] w h2 (by omega) rfl (fun _ => rfl) (fun a e => by cases e) h0 hnr hn (by omega) (by omega)).mono ?_
  rintro e w' ⟨he, G, zs, g1, g2, g3, hw⟩
  exact ⟨w.heap.size, he, nat_grow h h2 (by simp) hd hn (by omega) g2 g3 hw⟩
theorem nat_row {w : World} {sb si b L c nr n : Nat} {cur : Array Value} (h : w.heap[sb]? = some (.cells #[.pointer (some ⟨si, 0, none⟩)] 273 (0, 0))) (h2 : w.heap[si]? = some (.cells #[.slice (some ⟨b, 0, none⟩) L c] 300 (0, 0))) (h3 : w.heap[b]? = some (.cells cur 156 (0, 0)))
    (hc : cur.size = c) (hL : L ≤ c) (hc63 : c ≤ 9223372036854775807) (hd : sb ≠ si) (hd2 : sb ≠ b) (hd3 : si ≠ b)
    (h0 : 0 < n) (hnr : bits .andNot .i64 ((n : Int) + 3) 3 = (nr : Int)) (hn : n ≤ nr) (hn2 : L + nr ≤ 1048576) :
    Calls Tryz.prog 267 #[.pointer (some ⟨si, 0, none⟩), .int .i64 n] w fun e w' => ∃ g, e = .returned (.slice (some ⟨g, L, none⟩) n n) ∧ NatPost w w' sb [si, b] L nr n si g := by
  by_cases hfit : L + nr ≤ c
  · refine (inner_fit si b L c n nr cur w h2 h3 hc hd3 h0 hnr hn (by omega) hfit hc63).mono ?_
    rintro e w' ⟨he, rfl⟩
    exact ⟨b, he, nat_fit h h2 h3 hc hc63 hd hd2 hd3 hn hfit⟩
  · refine (inner_grow si L c n nr (some ⟨b, 0, none⟩) cur.toList w h2 hL (by simpa using hc) (fun e => by cases e) (fun a e j v hj => ?_) h0 hnr hn hn2 (by omega)).mono ?_
    · injection e with e
      subst e
      rw [Addr.add_lit, Nat.zero_add, cell_of_row _ _ _ _ _ _ h3]
      simpa using hj
    · rintro e w' ⟨he, G, zs, g1, g2, g3, hw⟩
      exact ⟨w.heap.size, he, nat_grow h h2 (by simp) hd hn g1 g2 g3 hw⟩
theorem zero300 : (Tryz.prog.info? 300).map (fun i => (i.zero, i.size)) = some (some (.agg #[.slice none 0 0]), 1) := by kernel_rfl
set_option maxRecDepth 100000 in
set_option maxHeartbeats 4000000 in
/-- nat of the stack. -/
theorem stackNat_any (sb L n nr : Nat) (l : List Nat) (w : World) (hS : StkAt w sb l L) (h0 : 4 < n) (hnr : bits .andNot .i64 ((n : Int) + 3) 3 = (nr : Int)) (hn : n ≤ nr) (hn2 : L + nr ≤ 1048576) :
    Calls Tryz.prog 231 #[.pointer (some ⟨sb, 0, none⟩), .int .i64 n] w fun e w' => ∃ si g, e = .returned (.slice (some ⟨g, L, none⟩) n n) ∧ NatPost w w' sb l L nr n si g := by
  cases hS with
  | none h =>
    have hsb : sb < w.heap.size := (Array.getElem?_eq_some_iff.1 h).1
    have hc : w.cell? ⟨sb, 0, none⟩ = some (.pointer none) := by rw [cell_of_row _ _ _ _ _ _ h]; rfl
    have hf : w.frozen? ⟨sb, 0, none⟩ = false := frozen_of_row _ _ _ _ _ h
    have h1 : decide ((n : Int) ≤ 4) = false := by simp; omega
    have hc' : (w.alloc (.cells #[.slice none 0 0] 300)).cell? ⟨sb, 0, none⟩ = some (.pointer none) := by rw [World.cell?_of_block (heap_alloc_old w _ hsb)]; exact hc
    have hf' : (w.alloc (.cells #[.slice none 0 0] 300)).frozen? ⟨sb, 0, none⟩ = false := by
      have hh : (w.alloc (.cells #[.slice none 0 0] 300)).heap[sb]? = some (.cells #[.pointer none] 273 (0, 0)) := by rw [heap_alloc_old w _ hsb]; exact h
      exact frozen_of_row _ _ _ _ _ hh
    obtain ⟨W, hW⟩ : ∃ W, W = (w.alloc (.cells #[.slice none 0 0] 300)).setCell ⟨sb, 0, none⟩ (.pointer (some ⟨w.heap.size, 0, none⟩)) := ⟨_, rfl⟩
    have a1 : W.heap[sb]? = some (.cells #[.pointer (some ⟨w.heap.size, 0, none⟩)] 273 (0, 0)) := by
      rw [hW]
      refine heap_setCell_at _ _ _ _ #[.pointer none] _ _ ?_
      rw [heap_alloc_old w _ hsb]
      exact h
    have a2 : W.heap[w.heap.size]? = some (.cells #[.slice none 0 0] 300 (0, 0)) := by
      rw [hW, Below.heap_setCell _ _ _ _ (by simp; omega)]
      exact heap_alloc_new w _
    have HC := Lib.hid (nat_bare a1 a2 (by omega) (by omega) hnr hn (by omega))
    have HK : Hid (Kp [sb] w W) := by
      show Kp _ _ _
      rw [hW]
      exact (kp_alloc _ _ _).setCell (by simp) _
    have HR : Hid (∀ b o xs, Reads w b o xs → Reads W b o xs) := fun b o xs hr => by
      by_cases hx0 : 0 < xs.length
      · have hb := reads_lt hr hx0
        by_cases e : b = sb
        · subst e
          rw [reads_not hr h (fun z => by simp)]
          exact reads_nil _ _ _
        · intro j hj
          rw [World.cell?_of_block (HK.out.block b hb (by simpa using e))]
          exact hr j hj
      · have : xs = [] := List.eq_nil_of_length_eq_zero (by omega)
        subst this
        exact reads_nil _ _ _
    have HW := Lib.hid hW
    have HSB := Lib.hid hsb
    clear h a1 a2 hW hsb
    go_enter Tryz.func231, Tryz.ntmps231
    go_wp2_with (go_at_call 267; rw [← HW.out]; refine HC.out.mono ?_; rintro e w' ⟨g, rfl, hN⟩; have HN := Lib.hid hN; clear hN)
    go_ret
    obtain ⟨n1, n2, n3, n4, n5⟩ := HN.out
    have hk := HK.out
    refine ⟨_, g, rfl, n1, n2, ⟨n3.os.trans hk.os, n3.tape.trans hk.tape, n3.output.trans hk.output, Nat.le_trans hk.size n3.size, fun k hkk hn => ?_⟩, fun x hx => ?_, fun b o xs hr _ => ?_⟩
    · rw [n3.block k (Nat.lt_of_lt_of_le hkk hk.size) (by simp at hn ⊢; omega), hk.block k hkk hn]
    · rcases n4 x hx with h | h
      · simp at h
        exact .inr (by omega)
      · exact .inr (Nat.le_trans hk.size h)
    · by_cases hx0 : 0 < xs.length
      · have hb := reads_lt hr hx0
        exact n5 b o xs (HR.out b o xs hr) (fun hb2 => by simp at hb2; omega)
      · have : xs = [] := List.eq_nil_of_length_eq_zero (by omega)
        subst this
        exact reads_nil _ _ _
  | bare si h h2 hd =>
    have hc : w.cell? ⟨sb, 0, none⟩ = some (.pointer (some ⟨si, 0, none⟩)) := by rw [cell_of_row _ _ _ _ _ _ h]; rfl
    have HC := Lib.hid (nat_bare h h2 hd (by omega) hnr hn (by omega))
    clear h h2
    go_enter Tryz.func231, Tryz.ntmps231
    go_wp2_with (go_at_call 267; refine HC.out.mono ?_; rintro e w' ⟨g, rfl, hN⟩; have HN := Lib.hid hN; clear hN)
    go_ret
    exact ⟨si, g, rfl, HN.out⟩
  | row si b L c cur h h2 h3 hcc hL h63 hd hd2 hd3 =>
    have hc : w.cell? ⟨sb, 0, none⟩ = some (.pointer (some ⟨si, 0, none⟩)) := by rw [cell_of_row _ _ _ _ _ _ h]; rfl
    have HC := Lib.hid (nat_row h h2 h3 hcc hL h63 hd hd2 hd3 (by omega) hnr hn hn2)
    clear h h2 h3
    go_enter Tryz.func231, Tryz.ntmps231
    go_wp2_with (go_at_call 267; refine HC.out.mono ?_; rintro e w' ⟨g, rfl, hN⟩; have HN := Lib.hid hN; clear hN)
    go_ret
    exact ⟨si, g, rfl, HN.out⟩
end Go.Proofs.YtoofphhfealcaaaGreatDoor
