/-
  WALKS: the division of a number of any length by a word.
-/
import Derived.Test.YtoofphhfealcaaaGreatDoorR4
import Derived.Test.YtoofphhfealcaaaGreatDoorK5
import Derived.Test.YtoofphhfealcaaaGreatDoorQ4
namespace Go.Proofs.YtoofphhfealcaaaGreatDoor
open Go.RowKit

theorem natB_lt {w : World} {b c : Nat} {xs : List Int} (h : NatB w b c xs) : b < w.heap.size := by
  obtain ⟨cur, h1, _⟩ := h.blk
  exact (Array.getElem?_eq_some_iff.1 h1).1
theorem natB_cell {w : World} {b c k : Nat} {xs : List Int} (h : NatB w b c xs) (hk : k < xs.length) : w.cell? ⟨b, k, none⟩ = some (.int .u64 xs[k]) := by
  have := h.rds k hk
  rwa [Nat.zero_add] at this
theorem natB_frz {w : World} {b c k : Nat} {xs : List Int} (h : NatB w b c xs) : w.frozen? ⟨b, k, none⟩ = false := by
  obtain ⟨cur, h1, _⟩ := h.blk
  exact frozen_of_row _ _ _ _ _ h1
theorem natB_room {w : World} {b c n : Nat} {xs : List Int} (h : NatB w b c xs) (hn : n ≤ c) : Room w b 0 n := by
  obtain ⟨cur, h1, h2⟩ := h.blk
  exact room_of_row h1 (by omega)
theorem natB_of {w w' : World} {b c : Nat} {xs : List Int} (h : NatB w b c xs) (he : w'.heap[b]? = w.heap[b]?) : NatB w' b c xs :=
  ⟨by rw [he]; exact h.blk, fun j hj => by rw [World.cell?_of_block he]; exact h.rds j hj, h.fit⟩
theorem natB_drewN {w : World} {b c : Nat} {xs : List Int} (h : NatB w b c xs) (n : Nat) : NatB (w.drewN n) b c xs := natB_of h rfl
theorem natB_kp {w w' : World} {l : List Nat} {b c : Nat} {xs : List Int} (h : NatB w b c xs) (hk : Kp l w w') (hn : b ∉ l) : NatB w' b c xs := natB_of h (hk.block b (natB_lt h) hn)
theorem natB_below {w w' : World} {b c : Nat} {xs : List Int} (h : NatB w b c xs) (hb : Below w.heap.size w w') : NatB w' b c xs := natB_of h (hb.block b (natB_lt h))
theorem natB_take {w : World} {b c : Nat} {xs : List Int} (h : NatB w b c xs) (n : Nat) : NatB w b c (xs.take n) :=
  ⟨h.blk, fun j hj => by
    have h1 : j < xs.length := by rw [List.length_take] at hj; omega
    rw [h.rds j h1]
    simp, by have := h.fit; rw [List.length_take]; omega⟩
theorem natB_nrm {w : World} {b c : Nat} {xs : List Int} (h : NatB w b c xs) : NatB w b c (nrm xs) := by
  have := natB_take h (nrm xs).length
  rwa [nrm_take] at this
theorem natB_set {w : World} {b c k : Nat} {xs : List Int} (h : NatB w b c xs) (hk : k < xs.length) (v : Int) : NatB (w.setCell ⟨b, k, none⟩ (.int .u64 v)) b c (xs.set k v) := by
  obtain ⟨cur, h1, h2⟩ := h.blk
  refine ⟨⟨_, heap_setCell_at w b k _ cur 156 (0, 0) h1, by simpa using h2⟩, fun j hj => ?_, by simpa using h.fit⟩
  have hj' : j < xs.length := by simpa using hj
  rw [Nat.zero_add]
  by_cases e : j = k
  · subst e
    rw [World.cell?_setCell_same _ _ _ (natB_cell h hj')]
    simp
  · rw [World.cell?_setCell_other _ _ _ _ (by intro e2; simp at e2 <;> omega), natB_cell h hj', List.getElem_set_ne (by omega)]
theorem take_set_drop (xs Q : List Int) (k : Nat) (v : Int) (hk : k < xs.length) : (xs.take (k + 1) ++ Q).set k v = xs.take k ++ (v :: Q) := by
  rw [List.take_succ_eq_append_getElem hk, List.append_assoc]
  have hl : (xs.take k).length = k := by rw [List.length_take]; omega
  rw [List.set_append_right _ _ (by omega), hl, Nat.sub_self]
  rfl

set_option maxRecDepth 100000 in
set_option maxHeartbeats 4000000 in
theorem divWVW_many (b c : Nat) (xs : List Int) (y m : Int) (w : World) (hr : Rec y m) (hrec : ∀ W, Calls Tryz.prog 240 #[.int .u64 y] W fun e w' => e = .returned (.int .u64 m) ∧ w' = W) (h2 : 2 ≤ xs.length) (hn : xs.length ≤ 1048576) (hx : Words xs) (hB : NatB w b c xs) :
    Calls Tryz.prog 213 #[.slice (some ⟨b, 0, none⟩) xs.length c, .int .u64 0, .slice (some ⟨b, 0, none⟩) xs.length c, .int .u64 y] w fun e w' =>
      e = .returned (.int .u64 (val xs % y)) ∧ ∃ Q, NatB w' b c Q ∧ Q.length = xs.length ∧ Words Q ∧ val Q = val xs / y ∧ Kp [b] w w' := by
  have HX := Lib.hid hx; have HB := Lib.hid hB; have HR := Lib.hid hr; have HC := Lib.hid hrec
  have h1 : ((xs.length : Int) == 1) = false := by rw [beq_eq_false_iff_ne]; omega
  clear hx hB hr hrec
  go_enter Tryz.func213, Tryz.ntmps213
  go_wp2_with (go_at_call 240; refine (HC.out _).mono ?_; rintro e w' ⟨rfl, hw⟩; obtain rfl := hw.symm)
  go_loopw [8, 12] (fun r i wr => ∃ (k : Nat) (rv : Int) (Q : List Int), k ≤ xs.length ∧ i = .int .i64 ((k : Int) - 1) ∧ r = .int .u64 rv ∧ 0 ≤ rv ∧ rv < y ∧ Hid (Q.length = xs.length - k ∧ Words Q ∧ NatB wr b c (xs.take k ++ Q) ∧ val (xs.drop k) = val Q * y + rv ∧ Kp [b] w wr)) (fun _ i _ => (intOf i + 1).toNat)
  case atStart =>
    refine ⟨xs.length, 0, [], by omega, by congr 1, rfl, by omega, by have := HR.out.top; omega, by simp, by intro z hz; simp at hz, by rw [List.take_length, List.append_nil]; exact HB.out, by simp [val], Kp.refl _ _⟩
  case round =>
    obtain ⟨k, rv, Q, hk, rfl, rfl, hr0, hr1, HI⟩ := hrel
    by_cases h0 : 0 < k
    · obtain ⟨k, rfl⟩ : ∃ i, k = i + 1 := ⟨k - 1, by omega⟩
      have hkx : k < xs.length := by omega
      obtain ⟨q1, q2, q3, q4, q5⟩ := HI.out
      have hkl : k < (xs.take (k + 1) ++ Q).length := by rw [List.length_append, List.length_take]; omega
      have hget : (xs.take (k + 1) ++ Q)[k] = xs[k] := by
        rw [List.getElem_append_left (by rw [List.length_take]; omega)]
        simp
      have hc := natB_cell q3 hkl
      rw [hget] at hc
      have hf := natB_frz q3 (k := k)
      have hxr := HX.out xs[k] (List.getElem_mem hkx)
      have hd : xs.drop k = xs[k] :: xs.drop (k + 1) := List.drop_eq_getElem_cons hkx
      have HD := Lib.hid hd
      have HS := Lib.hid (fun (W : World) (hW : W.heap = wr.heap) (v : Int) => natB_set (w := W) (natB_of q3 (by rw [hW])) hkl v)
      have HK := Lib.hid hkx
      generalize xs[k] = x at *
      clear q1 q2 q3 q4 q5 hd hget hkl
      have e1 : ((k + 1 : Nat) : Int) - 1 = (k : Int) := by omega
      rw [e1]
      go_wp2_with (go_at_call 241; refine (divWW_any rv x y m _ HR.out hr0 hr1 hxr.1 hxr.2).mono ?_; rintro e w' ⟨rfl, hw⟩; obtain rfl := hw.symm)
      go_roundw
      case rel =>
        obtain ⟨q1, q2, q3, q4, q5⟩ := HI.out
        have hy := HR.out.top
        have hqd := Int.emod_add_mul_ediv (rv * BW + x) y
        have hq0 : 0 ≤ (rv * BW + x) / y := Int.ediv_nonneg (by have := Int.mul_nonneg hr0 (Int.le_of_lt bw_pos); omega) (by omega)
        have hq1 : (rv * BW + x) / y < BW := by
          refine Int.ediv_lt_of_lt_mul (by omega) ?_
          have h1 : (rv + 1) * BW ≤ y * BW := Int.mul_le_mul_of_nonneg_right (by omega) (Int.le_of_lt bw_pos)
          have e : (rv + 1) * BW = rv * BW + BW := by grind
          have e2 : BW * y = y * BW := Int.mul_comm _ _
          omega
        refine ⟨k, (rv * BW + x) % y, ((rv * BW + x) / y) :: Q, by omega, by go_num, rfl, Int.emod_nonneg _ (by omega), Int.emod_lt_of_pos _ (by omega), by simp [q1]; omega, words_cons ⟨hq0, hq1⟩ q2, ?_, ?_, q5.setCell (by simp) _⟩
        · have := HS.out wr rfl ((rv * BW + x) / y)
          rw [take_set_drop _ _ _ _ HK.out] at this
          exact this
        · rw [HD.out, val, val, q4]
          generalize (rv * BW + x) / y = qq at *
          generalize (rv * BW + x) % y = rr at *
          grind
      case measure => simp [intOf] <;> omega
    · obtain rfl : k = 0 := by omega
      go_wp2_with fail
      go_ret
      obtain ⟨q1, q2, q3, q4, q5⟩ := HI.out
      rw [List.drop_zero] at q4
      obtain ⟨ea, eb⟩ := dm_eq (val xs) y (val Q) rv (by rw [q4, Int.mul_comm]) hr0 hr1
      refine ⟨by rw [eb]; rfl, Q, ?_, by simpa using q1, q2, ea.symm, q5⟩
      simpa using q3
set_option maxRecDepth 100000 in
set_option maxHeartbeats 4000000 in
theorem divWVW_single (b c : Nat) (x y : Int) (w : World) (hy1 : 0 < y) (hx0 : 0 ≤ x) (hx : x < BW) (hB : NatB w b c [x]) :
    Calls Tryz.prog 213 #[.slice (some ⟨b, 0, none⟩) 1 c, .int .u64 0, .slice (some ⟨b, 0, none⟩) 1 c, .int .u64 y] w fun e w' =>
      e = .returned (.int .u64 (x % y)) ∧ NatB w' b c [x / y] ∧ Kp [b] w w' := by
  have hc := natB_cell hB (k := 0) (by simp)
  have hf := natB_frz hB (k := 0)
  simp only [List.getElem_cons_zero] at hc
  have HS := Lib.hid (fun (n : Nat) (v : Int) => natB_set (natB_drewN hB n) (k := 0) (by simp) v)
  clear hB
  go_enter Tryz.func213, Tryz.ntmps213
  go_wp2_with (go_at_call 239; refine (bitsDiv_low x y hx0 hx hy1 _).mono ?_; rintro e w' ⟨rfl, n, rfl⟩)
  go_ret
  exact ⟨rfl, HS.out _ _, ((Kp.refl _ _).drewN _).setCell (by simp) _⟩
theorem divWVW_any (b c : Nat) (xs : List Int) (y m : Int) (w : World) (hr : Rec y m) (hrec : ∀ W, Calls Tryz.prog 240 #[.int .u64 y] W fun e w' => e = .returned (.int .u64 m) ∧ w' = W) (h1 : 1 ≤ xs.length) (hn : xs.length ≤ 1048576) (hx : Words xs) (hB : NatB w b c xs) :
    Calls Tryz.prog 213 #[.slice (some ⟨b, 0, none⟩) xs.length c, .int .u64 0, .slice (some ⟨b, 0, none⟩) xs.length c, .int .u64 y] w fun e w' =>
      e = .returned (.int .u64 (val xs % y)) ∧ ∃ Q, NatB w' b c Q ∧ Q.length = xs.length ∧ Words Q ∧ val Q = val xs / y ∧ Kp [b] w w' := by
  rcases xs with _ | ⟨x, r⟩
  · simp at h1
  rcases r with _ | ⟨x2, r⟩
  · have hw := hx x (by simp)
    have hy := hr.top
    refine (divWVW_single b c x y w (by omega) hw.1 hw.2 hB).mono ?_
    rintro e w' ⟨h1, h2, h3⟩
    have e1 : val [x] = x := by simp [val]
    refine ⟨by rw [e1]; exact h1, [x / y], h2, rfl, ?_, by simp [val], h3⟩
    intro z hz
    simp only [List.mem_singleton] at hz
    subst hz
    have h4 : 0 ≤ x / y := Int.ediv_nonneg hw.1 (by omega)
    have h5 : x / y ≤ x := Int.ediv_le_self _ hw.1
    exact ⟨h4, by omega⟩
  · exact divWVW_many b c (x :: x2 :: r) y m w hr hrec (by simp) hn hx hB
set_option maxRecDepth 100000 in
set_option maxHeartbeats 4000000 in
/-- The quotient by a word stands in the number's own block; the rest is handed back. -/
theorem divW_any (b c : Nat) (xs : List Int) (y m : Int) (w : World) (hr : Rec y m) (hrec : ∀ W, Calls Tryz.prog 240 #[.int .u64 y] W fun e w' => e = .returned (.int .u64 m) ∧ w' = W) (h1 : 1 ≤ xs.length) (hn : xs.length ≤ 1048576) (hcc : c ≤ 1099511627776) (hx : Words xs) (hB : NatB w b c xs) :
    Calls Tryz.prog 196 #[.slice (some ⟨b, 0, none⟩) xs.length c, .slice (some ⟨b, 0, none⟩) xs.length c, .int .u64 y] w fun e w' =>
      ∃ Q, e = .returned (.tuple #[.slice (some ⟨b, 0, none⟩) Q.length c, .int .u64 (val xs % y)]) ∧ NatB w' b c Q ∧ Q.length ≤ xs.length ∧ Words Q ∧ nrm Q = Q ∧ val Q = val xs / y ∧ Kp [b] w w' := by
  have hfit := hB.fit
  have hy0 : ((y : Int) == 0) = false := by rw [beq_eq_false_iff_ne]; have := hr.top; omega
  have hy1 : ((y : Int) == 1) = false := by rw [beq_eq_false_iff_ne]; have := hr.top; omega
  have hn0 : ((xs.length : Int) == 0) = false := by rw [beq_eq_false_iff_ne]; omega
  have HX := Lib.hid hx; have HB := Lib.hid hB; have HR := Lib.hid hr; have HC := Lib.hid hrec
  clear hx hB hr hrec
  go_enter Tryz.func196, Tryz.ntmps196
  go_wp2_with (first
    | (go_at_call 171; refine (make_fit b 0 xs.length c xs.length _ hfit (by omega)).mono ?_; rintro e w' ⟨rfl, rfl⟩)
    | (go_at_call 213; refine (divWVW_any b c xs y m _ HR.out HC.out h1 hn HX.out HB.out).mono ?_; rintro e w1 ⟨rfl, Q, q1, q2, q3, q4, q5⟩; have HQ := Lib.hid (And.intro q1 (And.intro q2 (And.intro q3 (And.intro q4 q5)))); clear q1 q2 q3 q4 q5)
    | (go_at_call 154; refine (norm_n b 0 c xs.length Q _ HQ.out.2.1 (by omega) hfit HQ.out.1.rds).mono ?_; rintro e w2 ⟨rfl, rfl⟩))
  go_ret2
  obtain ⟨q1, q2, q3, q4, q5⟩ := HQ.out
  refine ⟨nrm Q, rfl, natB_nrm q1, by have := nrm_len Q; omega, words_nrm q3, nrm_nrm Q, by rw [val_nrm, q4], q5⟩
end Go.Proofs.YtoofphhfealcaaaGreatDoor
