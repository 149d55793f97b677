/-
  WALKS: a copy of a number (set of nat).
  WALKS: division of a number of one word by a word.
  WALKS: the digits of a number of one word (convertWords without a table).
-/
import Derived.Test.YtoofphhfealcaaaGreatDoorC9
import Derived.Laws.CopyOwn
namespace Go.Proofs.YtoofphhfealcaaaGreatDoor
open Go.RowKit

theorem size156 : (Tryz.prog.info? 156).map (·.size) = some 1 := by kernel_rfl
/-- A number's words in a whole block of its own. -/
structure NatB (w : World) (g C : Nat) (xs : List Int) : Prop where
  blk : ∃ cur, w.heap[g]? = some (.cells cur 156 (0, 0)) ∧ cur.size = C
  rds : Reads w g 0 xs
  fit : xs.length ≤ C
set_option maxRecDepth 100000 in
set_option maxHeartbeats 2000000 in
theorem set_any (b c : Nat) (xs : List Int) (w : World) (h0 : 0 < xs.length) (hl : xs.length ≤ 1048576) (hb : b < w.heap.size) (hR : Reads w b 0 xs) :
    Calls Tryz.prog 165 #[.slice none 0 0, .slice (some ⟨b, 0, none⟩) xs.length c] w fun e w' => ∃ C, e = .returned (.slice (some ⟨w.heap.size, 0, none⟩) xs.length C) ∧ NatB w' w.heap.size C xs ∧ C ≤ xs.length + 4 ∧ Below w.heap.size w w' := by
  have main : ∀ C, xs.length ≤ C → C ≤ xs.length + 4 → Calls Tryz.prog 171 #[.slice none 0 0, .int .i64 (xs.length : Int)] w (fun e w' => e = .returned (.slice (some ⟨w.heap.size, 0, none⟩) xs.length C) ∧ w.alloc (.cells (madeCells #[.int .u64 0] C) 156) = w') →
      Calls Tryz.prog 165 #[.slice none 0 0, .slice (some ⟨b, 0, none⟩) xs.length c] w fun e w' => ∃ C, e = .returned (.slice (some ⟨w.heap.size, 0, none⟩) xs.length C) ∧ NatB w' w.heap.size C xs ∧ C ≤ xs.length + 4 ∧ Below w.heap.size w w' := by
    intro C hC hC4 hM
    have hR1 : Reads (w.alloc (.cells (madeCells #[.int .u64 0] C) 156)) b 0 xs := fun j hj => by
      rw [World.cell?_of_block (heap_alloc_old w _ hb)]
      exact hR j hj
    have hsm : (madeCells #[.int .u64 0] C).size = C := size_madeCells _ _
    obtain ⟨w2, hrun, hblk, hbel⟩ : ∃ w2, (Builtin.copy_ #[110, 110] 3 #[.slice (some ⟨w.heap.size, 0, none⟩) xs.length C, .slice (some ⟨b, 0, none⟩) xs.length c]).run Tryz.prog (w.alloc (.cells (madeCells #[.int .u64 0] C) 156)) = .ok (goInt xs.length) w2 ∧
        (∃ rest, w2.heap[w.heap.size]? = some (.cells (wv xs ++ rest).toArray 156 (0, 0)) ∧ (wv xs ++ rest).length = C) ∧ Below w.heap.size w w2 := by
      have h := run_copy_row (P := Tryz.prog) (w.alloc (.cells (madeCells #[.int .u64 0] C) 156)) 110 110 3 156 w.heap.size 0 xs.length C ⟨b, 0, none⟩ xs.length c (madeCells #[.int .u64 0] C) 156 (wv xs) und110 size156 (heap_alloc_new w _) (by rw [wv_len]; simp) (fun j v hj => by
          have hlt : j < xs.length := by have := (List.getElem?_eq_some_iff.1 hj).1; rwa [wv_len] at this
          have := hR1 j hlt
          rw [Nat.zero_add] at this
          rw [Addr.add_lit, Nat.zero_add, this, ← hj]
          simp [wv, hlt]) (by rw [wv_len, hsm]; omega) (by intro v hv; simp only [wv, List.mem_map] at hv; obtain ⟨x, _, rfl⟩ := hv; rfl)
      rw [wv_len] at h
      refine ⟨_, h, ⟨(madeCells #[.int .u64 0] C).toList.drop (0 + xs.length), ?_, ?_⟩, ?_⟩
      · rw [setRow_heap _ _ _ _ _ _ (heap_alloc_new w _)]
        simp
      · have e : (madeCells #[.int .u64 0] C).toList.length = C := by rw [Array.length_toList]; exact hsm
        rw [List.length_append, wv_len, List.length_drop, e]
        omega
      · exact below_setRow ((Below.refl _ _).alloc (Nat.le_refl _) _) (Nat.le_refl _) _
    have HM := Lib.hid hM; have HBLK := Lib.hid hblk; have HBEL := Lib.hid hbel
    clear hM hR hR1 hsm hblk hbel
    go_enter Tryz.func165, Tryz.ntmps165
    go_wp2_with (go_at_call 171; refine HM.out.mono ?_; rintro e w' ⟨rfl, rfl⟩)
    go_ret
    obtain ⟨rest, h1, h2⟩ := HBLK.out
    refine ⟨C, rfl, ⟨⟨_, h1, by simpa using h2⟩, ?_, hC⟩, hC4, HBEL.out⟩
    intro j hj
    rw [Nat.zero_add, cell_of_row _ _ _ _ _ _ h1]
    simp [wv, hj, List.getElem?_append_left]
  by_cases h1 : xs.length = 1
  · have := make_one none 0 w
    rw [show ((1 : Int)) = (xs.length : Int) by omega] at this
    exact main 1 (by omega) (by omega) (this.mono fun e w' h => by rw [h1]; exact h)
  · exact main (xs.length + 4) (by omega) (by omega) (make_new none 0 0 xs.length w h0 (by omega) (by omega))
end Go.Proofs.YtoofphhfealcaaaGreatDoor

namespace Go.Proofs.YtoofphhfealcaaaGreatDoor
open Go.RowKit

theorem tdiv_w (x y : Int) (hx0 : 0 ≤ x) (hx : x < BW) (hy0 : 0 < y) : IntKind.u64.wrap (x.tdiv y) = x / y := by
  rw [Int.tdiv_eq_ediv_of_nonneg hx0, IntKind.wrap_u64]
  have h1 : 0 ≤ x / y := Int.ediv_nonneg hx0 (by omega)
  have h2 : x / y ≤ x := Int.ediv_le_self y hx0
  unfold BW at hx
  omega
set_option maxRecDepth 100000 in
set_option maxHeartbeats 2000000 in
theorem bitsDiv64_low (x y : Int) (hx0 : 0 ≤ x) (hx : x < BW) (hy0 : 0 < y) (w : World) : Calls Tryz.prog 274 #[.int .u64 0, .int .u64 x, .int .u64 y] w fun e w' => e = .returned (.tuple #[.int .u64 (x / y), .int .u64 (x % y)]) ∧ ∃ n, w' = w.drewN n := by
  have h1 : ((y : Int) == 0) = false := by rw [beq_eq_false_iff_ne]; omega
  have h2 : decide (y ≤ 0) = false := by simp; omega
  have e1 := tdiv_w x y hx0 hx hy0
  clear hx
  go_enter Tryz.func274, Tryz.ntmps274
  go_wp2_with fail
  go_quiet (fail)
  go_wp2_with fail
  go_ret2
  exact ⟨rfl, _, rfl⟩
theorem bitsDiv_low (x y : Int) (hx0 : 0 ≤ x) (hx : x < BW) (hy0 : 0 < y) (w : World) : Calls Tryz.prog 239 #[.int .u64 0, .int .u64 x, .int .u64 y] w fun e w' => e = .returned (.tuple #[.int .u64 (x / y), .int .u64 (x % y)]) ∧ ∃ n, w' = w.drewN n := by
  go_enter Tryz.func239, Tryz.ntmps239
  go_wp2_with (go_at_call 274; refine (bitsDiv64_low x y hx0 hx hy0 _).mono ?_; rintro e w' ⟨rfl, n, rfl⟩)
  go_ret2
  exact ⟨rfl, _, rfl⟩
set_option maxRecDepth 100000 in
set_option maxHeartbeats 2000000 in
/-- A word below the divisor: the quotient is 0. -/
theorem divWVW_one (b c : Nat) (x y : Int) (hx0 : 0 ≤ x) (hxy : x < y) (hy : y < BW) (w : World) (hc : w.cell? ⟨b, 0, none⟩ = some (.int .u64 x)) (hf : w.frozen? ⟨b, 0, none⟩ = false) :
    Calls Tryz.prog 213 #[.slice (some ⟨b, 0, none⟩) 1 c, .int .u64 0, .slice (some ⟨b, 0, none⟩) 1 c, .int .u64 y] w fun e w' => e = .returned (.int .u64 x) ∧ ∃ n, w' = (w.drewN n).setCell ⟨b, 0, none⟩ (.int .u64 0) := by
  have e1 : x / y = 0 := Int.ediv_eq_zero_of_lt hx0 hxy
  have e2 : x % y = x := Int.emod_eq_of_lt hx0 hxy
  have HB : Hid (x < BW) := by show x < BW; omega
  have HE : Hid (x / y = 0 ∧ x % y = x) := ⟨e1, e2⟩
  have hy0 : 0 < y := by omega
  clear e1 e2 hy hxy
  go_enter Tryz.func213, Tryz.ntmps213
  go_wp2_with (go_at_call 239; refine (bitsDiv_low x y hx0 HB.out hy0 _).mono ?_; rintro e w' ⟨rfl, n, rfl⟩; rw [HE.out.1, HE.out.2])
  go_ret
  exact ⟨rfl, _, rfl⟩
set_option maxRecDepth 100000 in
set_option maxHeartbeats 2000000 in
theorem divW_one (b c : Nat) (cur : Array Value) (x y : Int) (hx0 : 0 ≤ x) (hxy : x < y) (hy1 : 1 < y) (hy : y < BW) (hc1 : 1 ≤ c) (hcc : c ≤ 1048576) (w : World) (hh : w.heap[b]? = some (.cells cur 156 (0, 0))) (hcu : cur[0]? = some (.int .u64 x)) :
    Calls Tryz.prog 196 #[.slice (some ⟨b, 0, none⟩) 1 c, .slice (some ⟨b, 0, none⟩) 1 c, .int .u64 y] w fun e w' => e = .returned (.tuple #[.slice (some ⟨b, 0, none⟩) 0 c, .int .u64 x]) ∧ ∃ n, w' = (w.drewN n).setCell ⟨b, 0, none⟩ (.int .u64 0) := by
  have hc : w.cell? ⟨b, 0, none⟩ = some (.int .u64 x) := by rw [cell_of_row _ _ _ _ _ _ hh]; exact hcu
  have hf : w.frozen? ⟨b, 0, none⟩ = false := frozen_of_row _ _ _ _ _ hh
  have HR : ∀ n, Reads ((w.drewN n).setCell ⟨b, 0, none⟩ (.int .u64 0)) b 0 [0] := fun n j hj => by
    have : j = 0 := by simp at hj; omega
    subst this
    have h2 : (w.drewN n).heap[b]? = some (.cells cur 156 (0, 0)) := by simpa using hh
    rw [Nat.zero_add, cell_of_row _ _ _ _ _ _ (heap_setCell_at _ b 0 (.int .u64 0) cur 156 (0, 0) h2)]
    have hs : 0 < cur.size := (Array.getElem?_eq_some_iff.1 hcu).1
    simp [hs]
  have h1 : ((y : Int) == 0) = false := by rw [beq_eq_false_iff_ne]; omega
  have h2 : ((y : Int) == 1) = false := by rw [beq_eq_false_iff_ne]; omega
  have HC := Lib.hid hc; have HF := Lib.hid hf; have HRR := Lib.hid HR
  clear HR hh hcu hc hf
  go_enter Tryz.func196, Tryz.ntmps196
  go_wp2_with (first
    | (go_at_call 171; refine (make_fit b 0 1 c 1 _ hc1 (by omega)).mono ?_; rintro e w' ⟨rfl, rfl⟩)
    | (go_at_call 213; refine (divWVW_one b c x y hx0 hxy hy _ HC.out HF.out).mono ?_; rintro e w' ⟨rfl, n, rfl⟩)
    | (go_at_call 154; refine (norm_n b 0 c 1 [0] _ rfl (by omega) hc1 (HRR.out n)).mono ?_; rintro e w' ⟨rfl, rfl⟩))
  go_ret2
  exact ⟨rfl, _, rfl⟩
end Go.Proofs.YtoofphhfealcaaaGreatDoor

namespace Go.Proofs.YtoofphhfealcaaaGreatDoor
open Go.RowKit

/-- The digit at a place, counted from the last. -/
def dgt (x : Int) (e : Nat) : Int := 48 + x / ten e % 10
/-- What the walk keeps: the row of digits, written from v on; the number's block is forgotten. -/
structure Sg (w0 wr : World) (qb g n v : Nat) (x : Int) : Prop where
  blk : ∃ cur, wr.heap[g]? = some (.cells cur 5 (0, 0)) ∧ cur.size = n ∧ ∀ p, v ≤ p → p < n → cur[p]? = some (.int .u8 (dgt x (n - 1 - p)))
  kp : Kp [qb, g] w0 wr
theorem sg_set {w0 wr : World} {qb g n v : Nat} {x : Int} (h : Sg w0 wr qb g n (v + 1) x) (hv : v < n) (d : Int) (hd : d = dgt x (n - 1 - v)) : Sg w0 (wr.setCell ⟨g, v, none⟩ (.int .u8 d)) qb g n v x := by
  subst hd
  obtain ⟨cur, h1, h2, h3⟩ := h.blk
  refine ⟨⟨_, heap_setCell_at wr g v _ cur 5 (0, 0) h1, by simpa using h2, fun p hp hpn => ?_⟩, h.kp.setCell (by simp) _⟩
  rw [Array.getElem?_setIfInBounds]
  by_cases e : v = p
  · subst e
    rw [if_pos rfl, if_pos (by omega)]
  · rw [if_neg e]
    exact h3 p (by omega) hpn
theorem sg_cell {w0 wr : World} {qb g n v : Nat} {x : Int} (h : Sg w0 wr qb g n v x) (p : Nat) (hp : p < n) : (∃ u, wr.cell? ⟨g, p, none⟩ = some u) ∧ wr.frozen? ⟨g, p, none⟩ = false := by
  obtain ⟨cur, h1, h2, h3⟩ := h.blk
  refine ⟨⟨cur[p], ?_⟩, frozen_of_row _ _ _ _ _ h1⟩
  rw [cell_of_row _ _ _ _ _ _ h1]
  simp [h2, hp]
theorem ten19 : ten 19 = 10000000000000000000 := by decide
theorem dgt_top (x : Int) (e : Nat) (h0 : 0 ≤ x) (hx : x < 10000000000000000000) (he : 19 ≤ e) : dgt x e = 48 := by
  have h1 : ten 19 ≤ ten e := ten_mono he
  rw [ten19] at h1
  unfold dgt
  rw [Int.ediv_eq_zero_of_lt h0 (by omega)]
  rfl
theorem div_ten (x : Int) (k : Nat) : x / ten k / 10 = x / ten (k + 1) := by
  rw [ten_succ, Int.ediv_ediv_of_nonneg (by have := ten_pos k; omega)]
set_option maxRecDepth 100000 in
set_option maxHeartbeats 4000000 in
theorem convert_one (qb qc g n sb : Nat) (x : Int) (curq curs : Array Value) (hx0 : 0 < x) (hx : x < 10000000000000000000) (hn : n ≤ 100000) (hqc : 1 ≤ qc) (hqc2 : qc ≤ 1048576) (hne : qb ≠ g) (w : World)
    (hq : w.heap[qb]? = some (.cells curq 156 (0, 0))) (hqx : curq[0]? = some (.int .u64 x)) (hg : w.heap[g]? = some (.cells curs 5 (0, 0))) (hgn : curs.size = n) :
    Calls Tryz.prog 166 #[.slice (some ⟨qb, 0, none⟩) 1 qc, .pointer (some ⟨sb, 0, none⟩), .slice (some ⟨g, 0, none⟩) n n, .int .u64 10, .int .i64 19, .int .u64 10000000000000000000, .slice none 0 0] w
      fun e w' => (∃ v, e = .returned v) ∧ Sg w w' qb g n 0 x := by
  have HQ := Lib.hid hq
  have HQX := Lib.hid hqx
  have HS : Hid (Sg w w qb g n n x) := ⟨⟨curs, hg, hgn, fun p h1 h2 => by omega⟩, Kp.refl _ _⟩
  clear hq hqx hg hgn
  go_enter Tryz.func166, Tryz.ntmps166
  go_wp2_with fail
  go_loopw [0, 19] (fun q i wr => ∃ (v : Nat) (b : Bool), i = .int .i64 v ∧ v ≤ n ∧ ((b = true ∧ q = .slice (some ⟨qb, 0, none⟩) 1 qc ∧ w = wr ∧ n = v) ∨ (b = false ∧ q = .slice (some ⟨qb, 0, none⟩) 0 qc ∧ Hid (Sg w wr qb g n v x) ∧ (v = 0 ∨ 19 ≤ n - v))))
    (fun q _ _ => match q with | .slice _ m _ => m | _ => 0)
  case atStart => exact ⟨n, true, rfl, Nat.le_refl _, .inl ⟨rfl, rfl, rfl, rfl⟩⟩
  case round =>
    obtain ⟨v, b, rfl, hv, ⟨rfl, rfl, rfl, rfl⟩ | ⟨rfl, rfl, HSg, hz⟩⟩ := hrel
    · go_wp2_with (go_at_call 196; refine (divW_one qb qc curq x 10000000000000000000 (by omega) hx (by omega) (by unfold BW; omega) hqc hqc2 _ HQ.out HQX.out).mono ?_; rintro e w2 ⟨rfl, m, rfl⟩)
      have HS1 : Hid (Sg w ((w.drewN m).setCell ⟨qb, 0, none⟩ (.int .u64 0)) qb g n n x) := by
        obtain ⟨cur, h1, h2, _⟩ := HS.out.blk
        refine ⟨⟨cur, ?_, h2, fun p h3 h4 => by omega⟩, ((Kp.refl _ w).drewN m).setCell (by simp) _⟩
        rw [Below.heap_setCell _ _ _ _ (fun e => hne e.symm)]
        simpa using h1
      clear HS HQ HQX
      go_loopw [19, 20, 21] (fun i r j wr => ∃ k : Nat, i = .int .i64 ((n - k : Nat) : Int) ∧ r = .int .u64 (x / ten k) ∧ j = .int .i64 k ∧ k ≤ 19 ∧ k ≤ n ∧ Hid (Sg w wr qb g n (n - k) x)) (fun _ _ j _ => 19 - (intOf j).toNat)
      case atStart => exact ⟨0, rfl, by simp [ten_zero], rfl, by omega, by omega, HS1⟩
      case round =>
        obtain ⟨k, rfl, rfl, rfl, hk, hkv, HSg⟩ := hrel
        by_cases hgo : k < 19 ∧ k < n
        · obtain ⟨hk19, hkv2⟩ := hgo
          obtain ⟨u, hu⟩ : ∃ u, n - k = u + 1 := ⟨n - k - 1, by omega⟩
          rw [hu] at HSg ⊢
          obtain ⟨⟨c0, hc0⟩, hf0⟩ := sg_cell HSg.out u (by omega)
          have ht1 := ten_pos k
          have ht2 := ten_pos (k + 1)
          have hb1 : 0 ≤ x / ten k := Int.ediv_nonneg (by omega) (by omega)
          have hb2 : x / ten k ≤ x := Int.ediv_le_self _ (by omega)
          have et : IntKind.u64.wrap ((x / ten k).tdiv 10) = x / ten (k + 1) := by
            rw [tdiv_w _ _ hb1 (by unfold BW; omega) (by omega), div_ten]
          obtain ⟨D, hD⟩ : ∃ D, D = dgt x k := ⟨_, rfl⟩
          have ed : (48 + IntKind.u64.wrap (x / ten k - IntKind.u64.wrap (x / ten (k + 1) * 10))) % 256 = D := by
            rw [hD, ← div_ten, IntKind.wrap_u64, IntKind.wrap_u64]
            unfold dgt
            omega
          have HD := Lib.hid hD
          have HU := Lib.hid hu
          have hun : u < n := by omega
          clear hu ht1 ht2 hD
          go_wp2_with fail
          refine ⟨⟨k + 1, ?_, rfl, by go_num, by omega, by omega, ?_⟩, ?_⟩
          · have := HU.out
            rw [show n - (k + 1) = u by omega]
          · have := HU.out
            rw [show n - (k + 1) = u by omega]
            exact sg_set HSg.out hun D (by rw [HD.out]; congr 1; omega)
          · simp [intOf] <;> omega
        · have hgo2 : k = 19 ∨ n - k = 0 := by omega
          have HZ : Hid (n - k = 0 ∨ 19 ≤ n - (n - k)) := by
            show _ ∨ _
            omega
          rcases hgo2 with rfl | h0
          · go_wp2_with fail
            exact ⟨⟨n - 19, false, rfl, by omega, .inr ⟨rfl, rfl, HSg, HZ.out⟩⟩, Nat.zero_lt_one⟩
          · have hkn : (k : Int) ≤ 19 := by omega
            rw [h0] at HSg HZ ⊢
            go_wp2_with fail
            all_goals exact ⟨⟨0, false, rfl, by omega, .inr ⟨rfl, rfl, HSg, .inl rfl⟩⟩, Nat.zero_lt_one⟩
    · clear HS HQ HQX
      have HZ := Lib.hid hz
      clear hz
      go_upto_region 36 with fail
      go_loopw [19] (fun i wx => ∃ u : Nat, i = .int .i64 u ∧ u ≤ n ∧ Hid (Sg w wx qb g n u x) ∧ Hid (u = 0 ∨ 19 ≤ n - u)) (fun i _ => (intOf i).toNat)
      case atStart => exact ⟨v, rfl, hv, HSg, HZ⟩
      case round =>
        obtain ⟨u, rfl, hu, HSu, HZu⟩ := hrel
        by_cases h0 : 0 < u
        · obtain ⟨u, rfl⟩ := Nat.exists_eq_succ_of_ne_zero (show u ≠ 0 by omega)
          rw [Nat.succ_eq_add_one] at *
          obtain ⟨⟨c0, hc0⟩, hf0⟩ := sg_cell HSu.out u (by omega)
          have hun : u < n := by omega
          go_wp2_with fail
          have hz2 : 19 ≤ n - (u + 1) := by have := HZu.out; omega
          refine ⟨⟨u, rfl, by omega, sg_set HSu.out hun 48 (dgt_top x _ (by omega) hx (by omega)).symm, .inr (by omega)⟩, ?_⟩
          simp [intOf] <;> omega
        · have hu0 : u = 0 := by omega
          subst hu0
          go_wp2_with fail
          go_end0
          exact ⟨⟨_, rfl⟩, HSu.out⟩
end Go.Proofs.YtoofphhfealcaaaGreatDoor
