/-
  WALKS: Int.scan, setFromScanner, SetString.
  WALKS: setFromScanner, SetString, convertToBigInt: which texts are numbers, and what stands behind the pointer then.
  WALKS: convertToBigInt, NewInt; the globals.
-/
import Derived.Test.YtoofphhfealcaaaGreatDoorC6
namespace Go.Proofs.YtoofphhfealcaaaGreatDoor
open Go.RowKit

/-- Of the blocks that were there, those of a list alone may have changed. -/
structure Kp (l : List Nat) (w w' : World) : Prop where
  os : w'.os = w.os
  tape : w'.tape = w.tape
  output : w'.output = w.output
  size : w.heap.size ≤ w'.heap.size
  block : ∀ k, k < w.heap.size → k ∉ l → w'.heap[k]? = w.heap[k]?
theorem Kp.refl (l : List Nat) (w : World) : Kp l w w := ⟨rfl, rfl, rfl, Nat.le_refl _, fun _ _ _ => rfl⟩
theorem Kp.trans {l : List Nat} {a b c : World} (h : Kp l a b) (k : Kp l b c) : Kp l a c :=
  ⟨k.os.trans h.os, k.tape.trans h.tape, k.output.trans h.output, Nat.le_trans h.size k.size, fun i hi hn => (k.block i (Nat.lt_of_lt_of_le hi h.size) hn).trans (h.block i hi hn)⟩
theorem Kp.of {l : List Nat} {a b : World} {r : Nat} (h : a.grownBy b (some r)) (hr : r ∈ l) : Kp l a b := ⟨h.os, h.tape, h.output, h.size, fun i hi hn => h.block i hi (fun e => hn (by injection e with e; rw [e]; exact hr))⟩
theorem Kp.setCell {l : List Nat} {a b : World} (h : Kp l a b) {x : Addr} (hx : x.block ∈ l) (v : Value) : Kp l a (b.setCell x v) :=
  h.trans ⟨rfl, rfl, rfl, by simp [World.setCell], fun k _ hn => Below.heap_setCell _ _ _ _ (fun e => hn (by rw [e]; exact hx))⟩
theorem Kp.drewN {l : List Nat} {a b : World} (h : Kp l a b) (n : Nat) : Kp l a (b.drewN n) := ⟨h.os, h.tape, h.output, h.size, h.block⟩
theorem Kp.cell {l : List Nat} {a b : World} (h : Kp l a b) {x : Addr} {v : Value} (hc : a.cell? x = some v) (hx : x.block ∉ l) : b.cell? x = some v :=
  (World.cell?_of_block (h.block x.block (World.block_lt_of_cell? a x hc) hx)).trans hc
theorem natO_mono {w : World} {b b' : Nat} {v : Value} {xs : List Int} (h : NatO w b v xs) (hb : b' ≤ b) : NatO w b' v xs := by
  refine ⟨h.1, ?_⟩
  rcases h.2 with h | ⟨g, cap, cur, h1, h2, h3⟩
  · exact .inl h
  · exact .inr ⟨g, cap, cur, h1, by omega, h3⟩
theorem natO_set {w : World} {b : Nat} {v : Value} {xs : List Int} (h : NatO w b v xs) {x : Addr} (hx : x.block < b) (u : Value) : NatO (w.setCell x u) b v xs := ownsRow_setCell_below h hx u

/-- A big.Int in a block. -/
def IntB (w : World) (ib : Nat) (neg : Bool) (z : Value) : Prop := w.heap[ib]? = some (.cells #[.bool neg, z] 112 (0, 0))
theorem intB_cells {w : World} {ib : Nat} {neg : Bool} {z : Value} (h : IntB w ib neg z) : w.cell? ⟨ib, 0, none⟩ = some (.bool neg) ∧ w.cell? ⟨ib, 1, none⟩ = some z ∧ w.frozen? ⟨ib, 0, none⟩ = false ∧ w.frozen? ⟨ib, 1, none⟩ = false ∧ ib < w.heap.size := by
  refine ⟨by rw [cell_of_row w ib 0 _ _ _ h]; rfl, by rw [cell_of_row w ib 1 _ _ _ h]; rfl, frozen_of_row _ _ _ _ _ h, frozen_of_row _ _ _ _ _ h, (Array.getElem?_eq_some_iff.1 h).1⟩
theorem intB_set {w : World} {ib : Nat} {neg : Bool} {z : Value} (h : IntB w ib neg z) (n2 : Bool) (z2 : Value) : IntB ((w.setCell ⟨ib, 1, none⟩ z2).setCell ⟨ib, 0, none⟩ (.bool n2)) ib n2 z2 := by
  unfold IntB at *
  rw [heap_setCell_at _ _ _ _ _ _ _ (heap_setCell_at _ _ _ _ _ _ _ h)]
  rfl
theorem intB_keep {w w1 : World} {ib : Nat} {neg : Bool} {z : Value} {l : List Nat} (h : IntB w ib neg z) (hk : Kp l w w1) (hn : ib ∉ l) : IntB w1 ib neg z := by
  unfold IntB at *
  rw [hk.block ib (Array.getElem?_eq_some_iff.1 h).1 hn]
  exact h

/-- How many digits stand at the head. -/
def nd (l : List UInt8) : Nat := (l.takeWhile isDig).length
theorem nd_eq : ∀ (l : List UInt8) (k : Nat), (∀ c ∈ l.take k, isDig c = true) → k ≤ l.length → (∀ h : k < l.length, isDig l[k] = false) → nd l = k
  | [], k, _, hk, _ => by simp [nd] at hk ⊢; omega
  | x :: r, 0, _, _, hn => by
    have := hn (by simp)
    simp only [List.getElem_cons_zero] at this
    simp [nd, this]
  | x :: r, k + 1, hd, hk, hn => by
    have hx := hd x (by simp)
    have ih := nd_eq r k (fun c hc => hd c (by simp [hc])) (by simpa using hk) (fun h => by have := hn (by simpa using h); simpa using this)
    simp only [nd, List.takeWhile_cons, hx, if_true, List.length_cons] at ih ⊢
    omega
theorem nd_take : ∀ l : List UInt8, l.take (nd l) = l.takeWhile isDig
  | [] => rfl
  | x :: r => by
    have ih := nd_take r
    unfold nd at *
    rw [List.takeWhile_cons]
    split
    · rw [List.length_cons, List.take_succ_cons, ih]
    · rfl
theorem val_zero {xs : List Int} (hw : Words xs) (hn : nrm xs = xs) (h : val xs = 0) : xs.length = 0 := by
  rcases Nat.eq_zero_or_pos xs.length with e | e
  · exact e
  · have := val_pos xs hw hn e
    omega
theorem val_nz {xs : List Int} (h : val xs ≠ 0) : 0 < xs.length := by
  rcases xs with _ | ⟨x, r⟩
  · exact absurd rfl h
  · simp

theorem scan_zero (rb p : Nat) (s : ByteArray) (w : World) (a : Addr) (enod : Value) (h : Rd w rb s p) (hp : p ≤ s.size) (heof : w.cell? ⟨3, 0, none⟩ = some (.iface 364 (.pointer (some a)))) (henod : w.cell? ⟨8, 0, none⟩ = some enod) (hrb : 20 ≤ rb) (hs : s.size ≤ 1048576) (hk : nd ((bs s).drop p) = 0) :
    Calls Tryz.prog 135 #[.slice none 0 0, .iface 150 (.pointer (some ⟨rb, 0, none⟩)), .int .i64 10, .bool false] w fun e w' => ∃ z, e = .returned (.tuple #[z, .int .i64 10, .int .i64 0, enod]) ∧ (∃ A n c, z = .slice A n c) ∧ w.grownBy w' (some rb) := by
  refine (scan_any rb p s w a enod h hp heof henod hrb hs).mono ?_
  rintro e w' ⟨k, z, xs, err, rfl, h1, h2, h3, h4, h5, h6, h7, h8, h9, h10, h11, h12, h13⟩
  have hl := bs_len s
  have : k = 0 := by
    rw [← hk]
    exact (nd_eq _ k h8 (by simp; omega) (fun hlt => by
      have hlt' : p + k < s.size := by simp at hlt; omega
      have := h10 hlt'
      rw [List.getElem_drop]
      exact this)).symm
  subst this
  rw [h1 rfl]
  refine ⟨z, rfl, ?_, h12⟩
  rcases nat_cases h3 with ⟨rfl, _⟩ | ⟨b, c, cur, rfl, _⟩
  · exact ⟨_, _, _, rfl⟩
  · exact ⟨_, _, _, rfl⟩
theorem scan_pos (rb p : Nat) (s : ByteArray) (w : World) (a : Addr) (enod : Value) (h : Rd w rb s p) (hp : p ≤ s.size) (heof : w.cell? ⟨3, 0, none⟩ = some (.iface 364 (.pointer (some a)))) (henod : w.cell? ⟨8, 0, none⟩ = some enod) (hrb : 20 ≤ rb) (hs : s.size ≤ 1048576) (hk : 0 < nd ((bs s).drop p)) :
    Calls Tryz.prog 135 #[.slice none 0 0, .iface 150 (.pointer (some ⟨rb, 0, none⟩)), .int .i64 10, .bool false] w fun e w' => ∃ A xs c, e = .returned (.tuple #[.slice A xs.length c, .int .i64 10, .int .i64 (nd ((bs s).drop p)), .nilIface]) ∧ NatO w' w.heap.size (.slice A xs.length c) xs ∧ Words xs ∧ nrm xs = xs ∧
      val xs = decV (((bs s).drop p).takeWhile isDig) ∧ Rd w' rb s (p + nd ((bs s).drop p)) ∧ w.grownBy w' (some rb) ∧ xs.length ≤ s.size + 1 := by
  refine (scan_any rb p s w a enod h hp heof henod hrb hs).mono ?_
  rintro e w' ⟨k, z, xs, err, rfl, h1, h2, h3, h4, h5, h6, h7, h8, h9, h10, h11, h12, h13⟩
  have hl := bs_len s
  have hke : nd ((bs s).drop p) = k := by
    exact nd_eq _ k h8 (by simp; omega) (fun hlt => by
      have hlt' : p + k < s.size := by simp at hlt; omega
      have := h10 hlt'
      rw [List.getElem_drop]
      exact this)
  rw [h2 (by omega)]
  have ht := nd_take ((bs s).drop p)
  rw [hke] at ht ⊢
  rw [ht] at h7
  rcases nat_cases h3 with ⟨rfl, rfl⟩ | ⟨b, c, cur, rfl, _⟩
  · exact ⟨_, [], _, rfl, h3, h4, h5, h7, h11, h12, by simp⟩
  · exact ⟨_, xs, _, rfl, h3, h4, h5, h7, h11, h12, by omega⟩

set_option maxRecDepth 100000 in
set_option maxHeartbeats 2000000 in
theorem intScan_zero (rb ib p : Nat) (ng : Bool) (s : ByteArray) (w : World) (a ae : Addr) (hI : IntB w ib false (.slice none 0 0)) (hib : ib ≠ rb) (hp : p ≤ s.size) (heof : w.cell? ⟨3, 0, none⟩ = some (.iface 364 (.pointer (some a)))) (henod : w.cell? ⟨8, 0, none⟩ = some (.iface 364 (.pointer (some ae)))) (hrb : 20 ≤ rb) (_hib2 : 20 ≤ ib) (hs : s.size ≤ 1048576)
    (hsg : Calls Tryz.prog 134 #[.iface 150 (.pointer (some ⟨rb, 0, none⟩))] w fun e w' => e = .returned (.tuple #[.bool ng, .nilIface]) ∧ Rd w' rb s p ∧ w.grownBy w' (some rb)) (hk : nd ((bs s).drop p) = 0) :
    Calls Tryz.prog 113 #[.pointer (some ⟨ib, 0, none⟩), .iface 150 (.pointer (some ⟨rb, 0, none⟩)), .int .i64 10] w fun e w' => e = .returned (.tuple #[.pointer none, .int .i64 10, .iface 364 (.pointer (some ae))]) ∧ Kp [ib, rb] w w' := by
  obtain ⟨i0, i1, f0, f1, hlt⟩ := intB_cells hI
  have HS := Lib.hid hsg; have HE := Lib.hid heof; have HN := Lib.hid henod; have HI := Lib.hid hI; have HK := Lib.hid hk
  clear hsg heof henod hI hk
  go_enter Tryz.func113, Tryz.ntmps113
  go_wp2_with (first
    | (go_at_call 134; refine HS.out.mono ?_; rintro e w1 ⟨rfl, hR1, hG1⟩; have HR1 := Lib.hid hR1; have HG1 := Lib.hid hG1; clear hR1 hG1; have j1 := HG1.out.cell i1 (by simp; omega); have hib1 : IntB w1 ib false (.slice none 0 0) := intB_keep HI.out (Kp.of HG1.out (l := [rb]) (by simp)) (by simp; omega); have HIB1 := Lib.hid hib1; clear hib1)
    | (go_at_call 135; go_loud (refine (scan_zero rb p s _ a (.iface 364 (.pointer (some ae))) HR1.out hp (cell3 HE.out HG1.out hrb) (cell8 HN.out HG1.out hrb) hrb hs HK.out).mono ?_); rintro e w2 ⟨z, rfl, ⟨A, n, c, rfl⟩, hG2⟩; obtain ⟨g0, g1, e0, e1, _⟩ := intB_cells (intB_keep HIB1.out (Kp.of hG2 (l := [rb]) (by simp)) (by simp; omega)); have HG2 := Lib.hid hG2; clear hG2))
  go_ret3
  refine ⟨rfl, (Kp.of HG1.out (by simp)).trans ?_⟩
  exact ((Kp.of HG2.out (by simp)).setCell (by simp) _)

set_option maxRecDepth 100000 in
set_option maxHeartbeats 2000000 in
theorem intScan_pos (rb ib p : Nat) (ng : Bool) (s : ByteArray) (w : World) (a ae : Addr) (hI : IntB w ib false (.slice none 0 0)) (hib : ib ≠ rb) (hp : p ≤ s.size) (heof : w.cell? ⟨3, 0, none⟩ = some (.iface 364 (.pointer (some a)))) (henod : w.cell? ⟨8, 0, none⟩ = some (.iface 364 (.pointer (some ae)))) (hrb : 20 ≤ rb) (_hib2 : 20 ≤ ib) (hs : s.size ≤ 1048576)
    (hsg : Calls Tryz.prog 134 #[.iface 150 (.pointer (some ⟨rb, 0, none⟩))] w fun e w' => e = .returned (.tuple #[.bool ng, .nilIface]) ∧ Rd w' rb s p ∧ w.grownBy w' (some rb)) (hk : 0 < nd ((bs s).drop p)) :
    Calls Tryz.prog 113 #[.pointer (some ⟨ib, 0, none⟩), .iface 150 (.pointer (some ⟨rb, 0, none⟩)), .int .i64 10] w fun e w' => ∃ z xs n2, e = .returned (.tuple #[.pointer (some ⟨ib, 0, none⟩), .int .i64 10, .nilIface]) ∧ IntB w' ib n2 z ∧ NatO w' w.heap.size z xs ∧ Words xs ∧ nrm xs = xs ∧
      val xs = decV (((bs s).drop p).takeWhile isDig) ∧ (ng = false → n2 = false) ∧ Rd w' rb s (p + nd ((bs s).drop p)) ∧ Kp [ib, rb] w w' ∧ xs.length ≤ s.size + 1 := by
  obtain ⟨i0, i1, f0, f1, hlt⟩ := intB_cells hI
  have HS := Lib.hid hsg; have HE := Lib.hid heof; have HN := Lib.hid henod; have HI := Lib.hid hI; have HK := Lib.hid hk
  clear hsg heof henod hI hk
  by_cases hv : decV (((bs s).drop p).takeWhile isDig) = 0
  · have HV := Lib.hid hv
    clear hv
    go_enter Tryz.func113, Tryz.ntmps113
    go_wp2_with (first
      | (go_at_call 134; refine HS.out.mono ?_; rintro e w1 ⟨rfl, hR1, hG1⟩; have HR1 := Lib.hid hR1; have HG1 := Lib.hid hG1; clear hR1 hG1; have j1 := HG1.out.cell i1 (by simp; omega); have hib1 : IntB w1 ib false (.slice none 0 0) := intB_keep HI.out (Kp.of HG1.out (l := [rb]) (by simp)) (by simp; omega); have HIB1 := Lib.hid hib1; clear hib1)
      | (go_at_call 135; go_loud (refine (scan_pos rb p s _ a (.iface 364 (.pointer (some ae))) HR1.out hp (cell3 HE.out HG1.out hrb) (cell8 HN.out HG1.out hrb) hrb hs HK.out).mono ?_); rintro e w2 ⟨A, xs, c, rfl, b1, b2, b3, b4, b5, b6, b7⟩; obtain ⟨g0, g1, e0, e1, _⟩ := intB_cells (intB_keep HIB1.out (Kp.of b6 (l := [rb]) (by simp)) (by simp; omega)); have HB := Lib.hid (And.intro b1 (And.intro b2 (And.intro b3 (And.intro b4 (And.intro b5 (And.intro b6 b7)))))); have hl00 := val_zero b2 b3 (b4.trans HV.out); have hl0 : decide (0 < xs.length) = false := decide_eq_false (by omega); clear hl00; clear b1 b2 b3 b4 b5 b6 b7))
    go_ret3
    obtain ⟨b1, b2, b3, b4, b5, b6, b7⟩ := HB.out
    have hi2 := intB_keep HIB1.out (Kp.of b6 (l := [rb]) (by simp)) (by simp; omega)
    have hlt1 : ib < w1.heap.size := (intB_cells HIB1.out).2.2.2.2
    refine ⟨_, xs, _, rfl, intB_set hi2 _ _, ?_, b2, b3, b4, ?_, ?_, ?_, b7⟩
    · exact natO_mono (natO_set (natO_set b1 (by exact hlt1) _) (by exact hlt1) _) HG1.out.size
    · first | exact fun _ => rfl | exact fun h => h | simp
    · exact rd_keep (r := some ib) (rd_keep (r := some ib) b5 (grown_set (grown_refl w2 _) 1 _) (by simp; omega)) (grown_set (grown_refl _ _) 0 _) (by simp; omega)
    · exact (Kp.of HG1.out (by simp)).trans (((Kp.of b6 (by simp)).setCell (by simp) _).setCell (by simp) _)
  · have HV := Lib.hid hv
    clear hv
    go_enter Tryz.func113, Tryz.ntmps113
    go_wp2_with (first
      | (go_at_call 134; refine HS.out.mono ?_; rintro e w1 ⟨rfl, hR1, hG1⟩; have HR1 := Lib.hid hR1; have HG1 := Lib.hid hG1; clear hR1 hG1; have j1 := HG1.out.cell i1 (by simp; omega); have hib1 : IntB w1 ib false (.slice none 0 0) := intB_keep HI.out (Kp.of HG1.out (l := [rb]) (by simp)) (by simp; omega); have HIB1 := Lib.hid hib1; clear hib1)
      | (go_at_call 135; go_loud (refine (scan_pos rb p s _ a (.iface 364 (.pointer (some ae))) HR1.out hp (cell3 HE.out HG1.out hrb) (cell8 HN.out HG1.out hrb) hrb hs HK.out).mono ?_); rintro e w2 ⟨A, xs, c, rfl, b1, b2, b3, b4, b5, b6, b7⟩; obtain ⟨g0, g1, e0, e1, _⟩ := intB_cells (intB_keep HIB1.out (Kp.of b6 (l := [rb]) (by simp)) (by simp; omega)); have HB := Lib.hid (And.intro b1 (And.intro b2 (And.intro b3 (And.intro b4 (And.intro b5 (And.intro b6 b7)))))); have hl1 : 0 < xs.length := val_nz (xs := xs) (by rw [b4]; exact HV.out); clear b1 b2 b3 b4 b5 b6 b7))
    go_ret3
    obtain ⟨b1, b2, b3, b4, b5, b6, b7⟩ := HB.out
    have hi2 := intB_keep HIB1.out (Kp.of b6 (l := [rb]) (by simp)) (by simp; omega)
    have hlt1 : ib < w1.heap.size := (intB_cells HIB1.out).2.2.2.2
    refine ⟨_, xs, _, rfl, intB_set hi2 _ _, ?_, b2, b3, b4, ?_, ?_, ?_, b7⟩
    · exact natO_mono (natO_set (natO_set b1 (by exact hlt1) _) (by exact hlt1) _) HG1.out.size
    · first | exact fun _ => rfl | exact fun h => h | simp
    · exact rd_keep (r := some ib) (rd_keep (r := some ib) b5 (grown_set (grown_refl w2 _) 1 _) (by simp; omega)) (grown_set (grown_refl _ _) 0 _) (by simp; omega)
    · exact (Kp.of HG1.out (by simp)).trans (((Kp.of b6 (by simp)).setCell (by simp) _).setCell (by simp) _)

end Go.Proofs.YtoofphhfealcaaaGreatDoor

namespace Go.Proofs.YtoofphhfealcaaaGreatDoor
open Go.RowKit

theorem ne_nil_eof (a : Addr) (w : World) : (binOp .neq 35 .nilIface (.iface 364 (.pointer (some a)))).run Tryz.prog w = .ok (.bool true) w := by
  have hi : Tryz.prog.underlying 35 = some (.interface #[("Error", 159)]) := by kernel_rfl
  have h : ∀ d : Nat, (Op.equalIn (d + 1) 35 .nilIface (.iface 364 (.pointer (some a)))).run Tryz.prog w = .ok false w := fun d => by simp [Op.equalIn, run_underlying hi]
  simp only [binOp]
  simp [Op.equal, Op.maxDepth, h 9999]
theorem ne_eof_eof (a : Addr) (w : World) : (binOp .neq 35 (.iface 364 (.pointer (some a))) (.iface 364 (.pointer (some a)))).run Tryz.prog w = .ok (.bool false) w := by
  obtain ⟨i, hi⟩ : ∃ i, Tryz.prog.info? 364 = some i := Option.isSome_iff_exists.1 (by kernel_rfl)
  obtain ⟨j, hj⟩ : ∃ j, Tryz.prog.info? 392 = some j := Option.isSome_iff_exists.1 (by kernel_rfl)
  have hc : i.comparable = true := by
    have h : (Tryz.prog.info? 364).map (·.comparable) = some true := by kernel_rfl
    rw [hi] at h
    simpa using h
  simp only [binOp]
  simp [Op.equal, Op.maxDepth, run_equalIn_iface_ptr_same w 9998 a (ti := 35) (ms := #[("Error", 159)]) (te := 392) (by kernel_rfl) (by kernel_rfl) hi hc hj]

/-- What stands behind a sign that may stand ahead. -/
def body : List UInt8 → List UInt8
  | [] => []
  | c :: r => if isSign c then r else c :: r
def isNum (l : List UInt8) : Bool := !(body l).isEmpty && (body l).all isDig
/-- Where the digits begin. -/
def from0 (l : List UInt8) : Nat := match l with
  | [] => 0
  | c :: _ => if isSign c then 1 else 0
theorem drop_from (l : List UInt8) : l.drop (from0 l) = body l := by
  rcases l with _ | ⟨c, r⟩
  · rfl
  · unfold from0 body
    dsimp only
    split <;> rfl
theorem from_le (l : List UInt8) : from0 l ≤ l.length := by
  rcases l with _ | ⟨c, r⟩
  · simp [from0]
  · unfold from0
    dsimp only
    split <;> simp
theorem nd_all {l : List UInt8} : nd l = l.length ↔ l.all isDig = true := by
  constructor
  · intro h
    have := nd_take l
    rw [h, List.take_length] at this
    rw [this]
    exact List.all_takeWhile
  · intro h
    refine nd_eq l l.length ?_ (Nat.le_refl _) (fun h => absurd h (by omega))
    intro c hc
    rw [List.take_length] at hc
    exact List.all_eq_true.1 h c hc
theorem nd_le (l : List UInt8) : nd l ≤ l.length := by
  unfold nd
  exact (List.takeWhile_sublist isDig).length_le

/-- The globals that numbers' readers meet: io.EOF, errNoDigits. -/
structure Errs (w : World) (a ae : Addr) : Prop where
  eof : w.cell? ⟨3, 0, none⟩ = some (.iface 364 (.pointer (some a)))
  nod : w.cell? ⟨8, 0, none⟩ = some (.iface 364 (.pointer (some ae)))

theorem sign_of (rb : Nat) (s : ByteArray) (w : World) (hR : Rd w rb s 0) (h0 : 0 < s.size) (hs : s.size ≤ 1048576) :
    Calls Tryz.prog 134 #[.iface 150 (.pointer (some ⟨rb, 0, none⟩))] w fun e w' => e = .returned (.tuple #[.bool (isSign (s[0]'h0) && s[0]'h0 == 45), .nilIface]) ∧ Rd w' rb s (from0 (bs s)) ∧ w.grownBy w' (some rb) := by
  have hl := bs_len s
  have e0 : ∃ r, bs s = s[0]'h0 :: r := by
    have h : 0 < (bs s).length := by omega
    rcases hb : bs s with _ | ⟨c, r⟩
    · rw [hb] at h; simp at h
    · refine ⟨r, ?_⟩
      have : s[0]'h0 = (bs s)[0]'h := rfl
      rw [this]
      simp [hb]
  obtain ⟨r, e0⟩ := e0
  by_cases hn : isSign (s[0]'h0) = true
  · have e1 : from0 (bs s) = 1 := by rw [e0]; unfold from0; dsimp only; rw [if_pos hn]
    rw [e1, hn, Bool.true_and]
    exact scanSign_yes rb s w hR h0 (by omega) hn
  · have hn' : isSign (s[0]'h0) = false := by simpa using hn
    have e1 : from0 (bs s) = 0 := by rw [e0]; unfold from0; dsimp only; rw [if_neg hn]
    rw [e1, hn', Bool.false_and]
    exact scanSign_no rb s w hR h0 (by omega) hn'
theorem kp_errs {l : List Nat} {w w1 : World} {a ae : Addr} (h : Errs w a ae) (hk : Kp l w w1) (hl : ∀ x ∈ l, 20 ≤ x) : Errs w1 a ae :=
  ⟨hk.cell h.eof (fun e => by have := hl _ e; simp at this), hk.cell h.nod (fun e => by have := hl _ e; simp at this)⟩

set_option maxRecDepth 100000 in
set_option maxHeartbeats 2000000 in
theorem intScan_end (rb ib : Nat) (s : ByteArray) (w : World) (a ae : Addr) (hR : Rd w rb s 0) (hE : Errs w a ae) (hrb : 20 ≤ rb) (hs : s.size = 0) :
    Calls Tryz.prog 113 #[.pointer (some ⟨ib, 0, none⟩), .iface 150 (.pointer (some ⟨rb, 0, none⟩)), .int .i64 10] w fun e w' => e = .returned (.tuple #[.pointer none, .int .i64 0, .iface 364 (.pointer (some a))]) ∧ Kp [ib, rb] w w' := by
  have hR' : Hid (Rd w rb s s.size) := by rw [hs]; exact hR
  have HE := Lib.hid hE
  have HZ := Lib.hid hs
  clear hR hE hs
  go_enter Tryz.func113, Tryz.ntmps113
  go_wp2_with (first | (go_at_call 134; refine (scanSign_end rb s w 364 a hR'.out HE.out.eof (by omega) (by have := HZ.out; omega)).mono ?_; rintro e w1 ⟨rfl, hR1, hG1⟩; have HG1 := Lib.hid hG1; clear hG1))
  go_ret3
  exact ⟨rfl, Kp.of HG1.out (by simp)⟩

set_option maxRecDepth 100000 in
set_option maxHeartbeats 2000000 in
/-- What is no number. -/
theorem setFrom_no (rb ib : Nat) (s : ByteArray) (w : World) (a ae : Addr) (hR : Rd w rb s 0) (hI : IntB w ib false (.slice none 0 0)) (hib : ib ≠ rb) (hE : Errs w a ae) (hrb : 20 ≤ rb) (hib2 : 20 ≤ ib) (hs : s.size ≤ 1048576) (hn : isNum (bs s) = false) :
    Calls Tryz.prog 77 #[.pointer (some ⟨ib, 0, none⟩), .iface 150 (.pointer (some ⟨rb, 0, none⟩)), .int .i64 10] w fun e w' => e = .returned (.tuple #[.pointer none, .bool false]) ∧ Kp [ib, rb] w w' := by
  have m1 := method_read ⟨rb, 0, none⟩
  have HR := Lib.hid hR; have HI := Lib.hid hI; have HE := Lib.hid hE; have HN := Lib.hid hn
  have hl := bs_len s
  clear hR hI hE hn
  by_cases h0 : s.size = 0
  · have H0 := Lib.hid h0
    clear h0
    go_enter Tryz.func77, Tryz.ntmps77
    go_wp2_with (first | (go_at_call 113; refine (intScan_end rb ib s w a ae HR.out HE.out hrb H0.out).mono ?_; rintro e w1 ⟨rfl, hG1⟩; have HG1 := Lib.hid hG1; clear hG1))
    go_ret2
    exact ⟨rfl, HG1.out⟩
  · have hsg := sign_of rb s w HR.out (by omega) hs
    have hfl := from_le (bs s)
    have HS := Lib.hid hsg
    clear hsg
    by_cases hk : nd ((bs s).drop (from0 (bs s))) = 0
    · have HK := Lib.hid hk
      clear hk
      go_enter Tryz.func77, Tryz.ntmps77
      go_wp2_with (first | (go_at_call 113; refine (intScan_zero rb ib _ _ s w a ae HI.out hib (by omega) HE.out.eof HE.out.nod hrb hib2 hs HS.out HK.out).mono ?_; rintro e w1 ⟨rfl, hG1⟩; have HG1 := Lib.hid hG1; clear hG1))
      go_ret2
      exact ⟨rfl, HG1.out⟩
    · have hkp : 0 < nd ((bs s).drop (from0 (bs s))) := by omega
      have q1 := ne_nil_eof a
      have hlt : from0 (bs s) + nd ((bs s).drop (from0 (bs s))) < s.size := by
        have h1 := nd_le ((bs s).drop (from0 (bs s)))
        rw [List.length_drop] at h1
        rcases Nat.lt_or_ge (from0 (bs s) + nd ((bs s).drop (from0 (bs s)))) s.size with h | h
        · exact h
        · exfalso
          have h2 : nd (body (bs s)) = (body (bs s)).length := by
            rw [← drop_from, List.length_drop]; omega
          have h3 := nd_all.1 h2
          have h4 : (body (bs s)).isEmpty = false := by
            rw [← drop_from]
            rcases hb : (bs s).drop (from0 (bs s)) with _ | ⟨c, r⟩
            · rw [hb] at hkp; simp [nd] at hkp
            · rfl
          have := HN.out
          rw [isNum, h3, h4] at this
          simp at this
      have HKP := Lib.hid hkp
      have HLT := Lib.hid hlt
      clear hk hkp hlt
      go_enter Tryz.func77, Tryz.ntmps77
      go_wp2_with (first
        | (go_at_call 113; refine (intScan_pos rb ib _ _ s w a ae HI.out hib (by omega) HE.out.eof HE.out.nod hrb hib2 hs HS.out HKP.out).mono ?_; rintro e w1 ⟨z, xs, n2, rfl, b1, b2, b3, b4, b5, b6, b7, b8, b9⟩; have HR1 := Lib.hid b7; have HG1 := Lib.hid b8; clear b1 b2 b3 b4 b5 b6 b7 b8 b9)
        | (go_at_call 360; refine (readByte_some rb s _ _ HR1.out HLT.out (by omega)).mono ?_; rintro e w2 ⟨rfl, hR2, hG2⟩; have c3 := (kp_errs (kp_errs HE.out HG1.out (by simp; omega)) (Kp.of hG2 (l := [rb]) (by simp)) (by simp; omega)).eof; have HG2 := Lib.hid hG2; clear hR2 hG2))
      go_ret2
      exact ⟨rfl, HG1.out.trans (Kp.of HG2.out (by simp))⟩

set_option maxRecDepth 100000 in
set_option maxHeartbeats 2000000 in
/-- What is a number. -/
theorem setFrom_yes (rb ib : Nat) (s : ByteArray) (w : World) (a ae : Addr) (hR : Rd w rb s 0) (hI : IntB w ib false (.slice none 0 0)) (hib : ib ≠ rb) (hE : Errs w a ae) (hrb : 20 ≤ rb) (hib2 : 20 ≤ ib) (hs : s.size ≤ 1048576) (hn : isNum (bs s) = true) :
    Calls Tryz.prog 77 #[.pointer (some ⟨ib, 0, none⟩), .iface 150 (.pointer (some ⟨rb, 0, none⟩)), .int .i64 10] w fun e w' => ∃ z xs n2, e = .returned (.tuple #[.pointer (some ⟨ib, 0, none⟩), .bool true]) ∧ IntB w' ib n2 z ∧ NatO w' w.heap.size z xs ∧ Words xs ∧ nrm xs = xs ∧
      val xs = decV (body (bs s)) ∧ ((bs s).head? ≠ some 45 → n2 = false) ∧ Kp [ib, rb] w w' ∧ xs.length ≤ s.size + 1 := by
  have m1 := method_read ⟨rb, 0, none⟩
  have hl := bs_len s
  rw [isNum, Bool.and_eq_true] at hn
  have hne : body (bs s) ≠ [] := by
    intro e
    rw [e] at hn
    simp at hn
  have hall := nd_all.2 hn.2
  have h0 : 0 < s.size := by
    rcases Nat.eq_zero_or_pos s.size with h | h
    · have : bs s = [] := List.eq_nil_of_length_eq_zero (by omega)
      rw [this] at hne
      exact absurd rfl hne
    · exact h
  have hsg := sign_of rb s w hR h0 hs
  have hfl := from_le (bs s)
  have hrs := (rd_cells hR).2.2.2.2.2
  have hkp : 0 < nd ((bs s).drop (from0 (bs s))) := by
    rw [drop_from, hall]
    exact List.length_pos_iff.2 hne
  have hend : from0 (bs s) + nd ((bs s).drop (from0 (bs s))) = s.size := by
    rw [drop_from, hall, ← drop_from, List.length_drop]; omega
  have htw : ((bs s).drop (from0 (bs s))).takeWhile isDig = body (bs s) := by
    rw [← nd_take, drop_from, hall, List.take_length]
  have hsgn : (bs s).head? ≠ some 45 → (isSign (s[0]'h0) && s[0]'h0 == 45) = false := by
    intro h
    have e : (bs s).head? = some (s[0]'h0) := by
      rw [List.head?_eq_getElem?, List.getElem?_eq_getElem (by omega)]
      rfl
    rw [e] at h
    have : (s[0]'h0 == 45) = false := by
      rw [beq_eq_false_iff_ne]
      intro e2
      exact h (by rw [e2])
    rw [this, Bool.and_false]
  have q1 := ne_eof_eof a
  have HI := Lib.hid hI; have HE := Lib.hid hE; have HS := Lib.hid hsg; have HKP := Lib.hid hkp; have HEND := Lib.hid hend; have HTW := Lib.hid htw; have HSG := Lib.hid hsgn
  clear hR hI hE hsg hkp hend htw hsgn hn hne hall
  go_enter Tryz.func77, Tryz.ntmps77
  go_wp2_with (first
    | (go_at_call 113; refine (intScan_pos rb ib _ _ s w a ae HI.out hib (by omega) HE.out.eof HE.out.nod hrb hib2 hs HS.out HKP.out).mono ?_; rintro e w1 ⟨z, xs, n2, rfl, b1, b2, b3, b4, b5, b6, b7, b8, b9⟩; rw [HEND.out] at b7; rw [HTW.out] at b5; have HR1 := Lib.hid b7; have HG1 := Lib.hid b8; have HB := Lib.hid (And.intro b1 (And.intro b2 (And.intro b3 (And.intro b4 (And.intro b5 (And.intro b6 b9)))))); clear b1 b2 b3 b4 b5 b6 b7 b8 b9)
    | (go_at_call 360; refine (readByte_end rb s _ _ HR1.out (kp_errs HE.out HG1.out (by simp; omega)).eof (by omega) (by omega)).mono ?_; rintro e w2 ⟨rfl, hR2, hG2⟩; have c3 := (kp_errs (kp_errs HE.out HG1.out (by simp; omega)) (Kp.of hG2 (l := [rb]) (by simp)) (by simp; omega)).eof; have HG2 := Lib.hid hG2; clear hR2 hG2))
  go_ret2
  obtain ⟨b1, b2, b3, b4, b5, b6, b9⟩ := HB.out
  refine ⟨z, xs, n2, rfl, intB_keep b1 (Kp.of HG2.out (l := [rb]) (by simp)) (by simp; omega), own_keep b2 HG2.out (fun k hk => by injection hk with hk; omega), b3, b4, b5, fun h => b6 (HSG.out h), HG1.out.trans (Kp.of HG2.out (by simp)), b9⟩

/-- A big.Int with its number, in blocks from base on. -/
structure BigAt (w : World) (base ib : Nat) (s : ByteArray) : Prop where
  ex : ∃ z xs n2, IntB w ib n2 z ∧ NatO w base z xs ∧ Words xs ∧ nrm xs = xs ∧ val xs = decV (body (bs s)) ∧ ((bs s).head? ≠ some 45 → n2 = false) ∧ xs.length ≤ s.size + 1

theorem rd_new (w : World) (s : ByteArray) : Rd (w.alloc (.cells #[.string s, .int .i64 0, .int .i64 (-1)] 189)) w.heap.size s 0 := ⟨-1, heap_alloc_new w _⟩
theorem kp_alloc (l : List Nat) (w : World) (o : Obj) : Kp l w (w.alloc o) := ⟨rfl, rfl, rfl, by simp, fun _ hk _ => heap_alloc_old w o hk⟩
set_option maxHeartbeats 1000000 in
theorem setString_no (ib : Nat) (s : ByteArray) (w : World) (a ae : Addr) (hI : IntB w ib false (.slice none 0 0)) (hE : Errs w a ae) (hw : 20 ≤ w.heap.size) (hib2 : 20 ≤ ib) (hs : s.size ≤ 1048576) (hn : isNum (bs s) = false) :
    Calls Tryz.prog 47 #[.pointer (some ⟨ib, 0, none⟩), .string s, .int .i64 10] w fun e w' => e = .returned (.tuple #[.pointer none, .bool false]) ∧ Kp [ib, w.heap.size] w w' := by
  have hlt := (intB_cells hI).2.2.2.2
  have hI' := intB_keep hI (kp_alloc [] w (.cells #[.string s, .int .i64 0, .int .i64 (-1)] 189)) (by simp)
  have hE' := kp_errs hE (kp_alloc [] w (.cells #[.string s, .int .i64 0, .int .i64 (-1)] 189)) (by simp)
  have HI := Lib.hid hI'; have HE := Lib.hid hE'; have HN := Lib.hid hn; have HR := Lib.hid (rd_new w s)
  clear hI hE hI' hE' hn
  go_enter Tryz.func47, Tryz.ntmps47
  go_wp2_with (first
    | (go_at_call 77; refine (setFrom_no w.heap.size ib s _ a ae HR.out HI.out (by omega) HE.out hw hib2 hs HN.out).mono ?_; rintro e w1 ⟨rfl, hG1⟩; have HG1 := Lib.hid hG1; clear hG1)
    | go_in)
  go_ret2
  exact ⟨rfl, (kp_alloc _ w _).trans HG1.out⟩
set_option maxHeartbeats 1000000 in
theorem setString_yes (ib : Nat) (s : ByteArray) (w : World) (a ae : Addr) (hI : IntB w ib false (.slice none 0 0)) (hE : Errs w a ae) (hw : 20 ≤ w.heap.size) (hib2 : 20 ≤ ib) (hs : s.size ≤ 1048576) (hn : isNum (bs s) = true) :
    Calls Tryz.prog 47 #[.pointer (some ⟨ib, 0, none⟩), .string s, .int .i64 10] w fun e w' => e = .returned (.tuple #[.pointer (some ⟨ib, 0, none⟩), .bool true]) ∧ BigAt w' w.heap.size ib s ∧ Kp [ib, w.heap.size] w w' := by
  have hlt := (intB_cells hI).2.2.2.2
  have hI' := intB_keep hI (kp_alloc [] w (.cells #[.string s, .int .i64 0, .int .i64 (-1)] 189)) (by simp)
  have hE' := kp_errs hE (kp_alloc [] w (.cells #[.string s, .int .i64 0, .int .i64 (-1)] 189)) (by simp)
  have HI := Lib.hid hI'; have HE := Lib.hid hE'; have HN := Lib.hid hn; have HR := Lib.hid (rd_new w s)
  clear hI hE hI' hE' hn
  go_enter Tryz.func47, Tryz.ntmps47
  go_wp2_with (first
    | (go_at_call 77; refine (setFrom_yes w.heap.size ib s _ a ae HR.out HI.out (by omega) HE.out hw hib2 hs HN.out).mono ?_; rintro e w1 ⟨z, xs, n2, rfl, b1, b2, b3, b4, b5, b6, b7, b8⟩; have HG1 := Lib.hid b7; have HB := Lib.hid (And.intro b1 (And.intro b2 (And.intro b3 (And.intro b4 (And.intro b5 (And.intro b6 b8)))))); clear b1 b2 b3 b4 b5 b6 b7 b8)
    | go_in)
  go_ret2
  obtain ⟨b1, b2, b3, b4, b5, b6, b8⟩ := HB.out
  exact ⟨rfl, ⟨z, xs, n2, b1, natO_mono b2 (by simp), b3, b4, b5, b6, b8⟩, (kp_alloc _ w _).trans HG1.out⟩

end Go.Proofs.YtoofphhfealcaaaGreatDoor

namespace Go.Proofs.YtoofphhfealcaaaGreatDoor
open Go.RowKit

/-- The globals that the code reads: sentinels, thresholds. -/
structure Gl (w : World) (a ae ai au : Addr) : Prop extends Errs w a ae where
  inv : w.cell? ⟨1, 0, none⟩ = some (.iface 364 (.pointer (some ai)))
  uns : w.cell? ⟨0, 0, none⟩ = some (.iface 364 (.pointer (some au)))
  leaf : w.cell? ⟨12, 0, none⟩ = some (.int .i64 8)
  bsq : w.cell? ⟨15, 0, none⟩ = some (.int .i64 12)
  ksq : w.cell? ⟨16, 0, none⟩ = some (.int .i64 80)
  drt : w.cell? ⟨17, 0, none⟩ = some (.int .i64 40)
  kar : w.cell? ⟨18, 0, none⟩ = some (.int .i64 40)
  spc : ∀ i : Nat, i < 256 → w.cell? ⟨2, i, none⟩ = some (.int .u8 (if (9 ≤ i ∧ i ≤ 13) ∨ i = 32 then 1 else 0))
  size : 20 ≤ w.heap.size
theorem gl_kp {l : List Nat} {w w1 : World} {a ae ai au : Addr} (h : Gl w a ae ai au) (hk : Kp l w w1) (hl : ∀ x ∈ l, 20 ≤ x) : Gl w1 a ae ai au := by
  have hn : ∀ b, b < 20 → b ∉ l := fun b hb hm => by have := hl b hm; omega
  exact ⟨⟨hk.cell h.eof (hn _ (by simp)), hk.cell h.nod (hn _ (by simp))⟩, hk.cell h.inv (hn _ (by simp)), hk.cell h.uns (hn _ (by simp)), hk.cell h.leaf (hn _ (by simp)), hk.cell h.bsq (hn _ (by simp)), hk.cell h.ksq (hn _ (by simp)),
    hk.cell h.drt (hn _ (by simp)), hk.cell h.kar (hn _ (by simp)), fun i hi => hk.cell (h.spc i hi) (hn _ (by simp)), Nat.le_trans h.size hk.size⟩
theorem kp_below {w w1 : World} (h : Below w.heap.size w w1) : Kp [] w w1 := ⟨h.os, h.tape, h.output, h.size, fun k hk _ => h.block k hk⟩
theorem below_kp {w w1 : World} (h : Kp [] w w1) : Below w.heap.size w w1 := ⟨h.os, h.tape, h.output, h.size, fun k hk => h.block k hk (by simp)⟩
theorem gl_below {w w1 : World} {a ae ai au : Addr} (h : Gl w a ae ai au) (hk : Below w.heap.size w w1) : Gl w1 a ae ai au := gl_kp h (kp_below hk) (by simp)
/-- New blocks alone were written. -/
theorem kp_new {l : List Nat} {w w1 w2 : World} (h : Kp l w1 w2) (h0 : Below w.heap.size w w1) (hl : ∀ x ∈ l, w.heap.size ≤ x) : Below w.heap.size w w2 :=
  h0.trans ⟨h.os, h.tape, h.output, h.size, fun k hk => h.block k (Nat.lt_of_lt_of_le hk h0.size) (fun hm => by have := hl k hm; omega)⟩

theorem intB_new (w : World) : IntB (w.alloc (.cells #[.bool false, .slice none 0 0] 112)) w.heap.size false (.slice none 0 0) := heap_alloc_new w _
set_option maxHeartbeats 1000000 in
theorem conv_yes (s : ByteArray) (w : World) (a ae ai au : Addr) (hG : Gl w a ae ai au) (hs : s.size ≤ 1048576) (hn : isNum (bs s) = true) :
    Calls Tryz.prog 52 #[.string s] w fun e w' => e = .returned (.tuple #[.pointer (some ⟨w.heap.size, 0, none⟩), .nilIface]) ∧ BigAt w' (w.heap.size + 1) w.heap.size s ∧ Below w.heap.size w w' := by
  have hE := (gl_kp hG (kp_alloc [] w (.cells #[.bool false, .slice none 0 0] 112)) (by simp)).toErrs
  have hw := hG.size
  have HE := Lib.hid hE; have HN := Lib.hid hn; have HI := Lib.hid (intB_new w)
  clear hE hn hG
  go_enter Tryz.func52, Tryz.ntmps52
  go_wp2_with (go_at_call 47; go_loud (refine (setString_yes w.heap.size s _ a ae HI.out HE.out (by simp; omega) hw hs HN.out).mono ?_); rintro e w1 ⟨rfl, b1, b2⟩; have HB := Lib.hid b1; have HK := Lib.hid b2; clear b1 b2)
  go_ret2
  refine ⟨rfl, by simpa using HB.out, ?_⟩
  exact kp_new HK.out ((Below.refl _ _).alloc (Nat.le_refl _) _) (by simp)
set_option maxHeartbeats 1000000 in
theorem conv_no (s : ByteArray) (w : World) (a ae ai au : Addr) (hG : Gl w a ae ai au) (hs : s.size ≤ 1048576) (hn : isNum (bs s) = false) :
    Calls Tryz.prog 52 #[.string s] w fun e w' => e = .returned (.tuple #[.pointer none, .iface 364 (.pointer (some ai))]) ∧ Below w.heap.size w w' := by
  have hE := gl_kp hG (kp_alloc [] w (.cells #[.bool false, .slice none 0 0] 112)) (by simp)
  have hw := hG.size
  have HE := Lib.hid hE; have HN := Lib.hid hn; have HI := Lib.hid (intB_new w)
  clear hE hn hG
  go_enter Tryz.func52, Tryz.ntmps52
  go_wp2_with (go_at_call 47; go_loud (refine (setString_no w.heap.size s _ a ae HI.out HE.out.toErrs (by simp; omega) hw hs HN.out).mono ?_); rintro e w1 ⟨rfl, b2⟩; have c1 := (gl_kp HE.out b2 (by simp; omega)).inv; have HK := Lib.hid b2; clear b2)
  go_quiet (fail)
  go_wp2_with fail
  go_ret2
  refine ⟨rfl, ?_⟩
  have := kp_new HK.out ((Below.refl _ _).alloc (Nat.le_refl _) _) (by simp)
  exact ⟨this.os, this.tape, this.output, this.size, this.block⟩

theorem newInt_zero (w : World) : Calls Tryz.prog 49 #[.int .i64 0] w fun e w' => e = .returned (.pointer (some ⟨w.heap.size, 0, none⟩)) ∧ Below w.heap.size w w' := by
  go_enter Tryz.func49, Tryz.ntmps49
  go_wp2_with fail
  go_ret
  exact ⟨rfl, (Below.refl _ _).alloc (Nat.le_refl _) _⟩
theorem newInt_neg (w : World) : Calls Tryz.prog 49 #[.int .i64 (-1)] w fun e w' => e = .returned (.pointer (some ⟨w.heap.size + 1, 0, none⟩)) ∧ Below w.heap.size w w' := by
  go_enter Tryz.func49, Tryz.ntmps49
  go_wp2_with fail
  go_ret
  exact ⟨rfl, ((Below.refl _ _).alloc (Nat.le_refl _) _).alloc (by simp) _⟩

end Go.Proofs.YtoofphhfealcaaaGreatDoor
