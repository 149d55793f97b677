/-
  WALKS: a number of one word as a text: itoa, Text, String.
  WALKS: a number of at most 19 digits as a text.
-/
import Derived.Test.YtoofphhfealcaaaGreatDoorK5
import Derived.Test.YtoofphhfealcaaaGreatDoorK1
import Derived.Test.YtoofphhfealcaaaGreatDoorK2
import Derived.Defers
import Derived.Laws.IdiomStrings
import Derived.Test.YtoofphhfealcaaaGreatDoorJ5
import Derived.Lib.SlBytesConst
import Derived.StillTailTactics
namespace Go.Proofs.YtoofphhfealcaaaGreatDoor
open Go.RowKit

theorem free_d (sb : Nat) (u : FrameMode) (w : World) (hc : w.cell? ⟨sb, 0, none⟩ = some (.pointer none)) :
    CallsD Tryz.prog 163 #[.pointer (some ⟨sb, 0, none⟩)] u w fun e u' w' => u' = u ∧ (e = .returned (.tuple #[]) ∧ w' = w) := by
  go_enter_d Tryz.func163, Tryz.ntmps163
  go_wp2
  go_end0
  exact ⟨rfl, rfl⟩
theorem getStack_any (w : World) : Calls Tryz.prog 162 #[] w fun e w' => e = .returned (.pointer (some ⟨w.heap.size, 0, none⟩)) ∧ w.alloc (.cells #[.pointer none] 273) = w' := by
  go_enter Tryz.func162, Tryz.ntmps162
  go_wp2
  go_ret
  exact ⟨rfl, rfl⟩
theorem divisors_nil (p : Value) (m : Nat) (b : Int) (nd bb : Value) (w : World) (hm : m ≤ 8) (h12 : w.cell? ⟨12, 0, none⟩ = some (.int .i64 8)) : Calls Tryz.prog 164 #[p, .int .i64 m, .int .u64 b, nd, bb] w fun e w' => e = .returned (.slice none 0 0) ∧ w = w' := by
  have h1 : decide ((m : Int) ≤ 8) = true := by simp; omega
  go_enter Tryz.func164, Tryz.ntmps164
  go_wp2
  go_ret
  exact ⟨rfl, rfl⟩
/-- Where all low digits are 0 a number is 0. -/
theorem all_zero (x : Int) (h0 : 0 ≤ x) : ∀ n : Nat, (∀ e, e < n → x / ten e % 10 = 0) → x % ten n = 0
  | 0, _ => by rw [ten_zero]; omega
  | n + 1, h => by
    have ih := all_zero x h0 n (fun e he => h e (by omega))
    have hd := h n (by omega)
    have h1 := Int.emod_add_mul_ediv x (ten n)
    have h2 := Int.emod_add_mul_ediv (x / ten n) 10
    rw [ih] at h1
    rw [hd] at h2
    rw [ten_succ]
    have e : x = ten n * 10 * (x / ten n / 10) := by
      rw [Int.mul_assoc]
      have : 10 * (x / ten n / 10) = x / ten n := by omega
      rw [this]
      omega
    rw [e]
    exact Int.mul_emod_right _ _
theorem some_digit (x : Int) (n : Nat) (h0 : 0 < x) (hx : x < ten n) : ∃ e, e < n ∧ dgt x e ≠ 48 := by
  refine Classical.byContradiction fun hno => ?_
  have h := all_zero x (by omega) n (fun e he => by
    refine Classical.byContradiction fun hne => hno ⟨e, he, ?_⟩
    unfold dgt
    omega)
  rw [Int.emod_eq_of_lt (by omega) hx] at h
  omega
/-- A row of bytes. -/
def ByteRow (w : World) (g n : Nat) : Prop := ∀ p, p < n → ∃ b : UInt8, w.cell? ⟨g, p, none⟩ = some (.int .u8 (b.toNat : Int))
theorem byteRow_list {w : World} {g n : Nat} (h : ByteRow w g n) : ∀ (m o : Nat), o + m ≤ n → ∃ l : List UInt8, l.length = m ∧ ∀ j (hj : j < l.length), w.cell? ⟨g, o + j, none⟩ = some (.int .u8 (l[j].toNat : Int))
  | 0, _, _ => ⟨[], rfl, fun j hj => absurd hj (by simp)⟩
  | m + 1, o, hm => by
    obtain ⟨l, h1, h2⟩ := byteRow_list h m (o + 1) (by omega)
    obtain ⟨b, hb⟩ := h o (by omega)
    refine ⟨b :: l, by simp [h1], fun j hj => ?_⟩
    cases j with
    | zero => simpa using hb
    | succ j =>
      have := h2 j (by simpa using hj)
      rw [show o + 1 + j = o + (j + 1) by omega] at this
      simpa using this
theorem dgt_byte (x : Int) (e : Nat) : ∃ b : UInt8, dgt x e = (b.toNat : Int) := by
  have h1 : 0 ≤ x / ten e % 10 := Int.emod_nonneg _ (by omega)
  have h2 : x / ten e % 10 < 10 := Int.emod_lt_of_pos _ (by omega)
  refine ⟨UInt8.ofNat (dgt x e).toNat, ?_⟩
  have h3 : (dgt x e).toNat < 256 := by unfold dgt; omega
  have h4 : (UInt8.ofNat (dgt x e).toNat).toNat = (dgt x e).toNat := by simp; omega
  rw [h4]
  unfold dgt
  omega
theorem sg_byteRow {w0 wr : World} {qb g n : Nat} {x : Int} (h : Sg w0 wr qb g n 0 x) : ByteRow wr g n := by
  intro p hp
  obtain ⟨cur, h1, h2, h3⟩ := h.blk
  obtain ⟨b, hb⟩ := dgt_byte x (n - 1 - p)
  refine ⟨b, ?_⟩
  rw [cell_of_row _ _ _ _ _ _ h1, h3 p (by omega) hp, hb]

theorem info5k : (Tryz.prog.info? 5).map (fun i => (i.zero, i.size, i.bytes)) = some (some (.int .u8 0), 1, 1) := by kernel_rfl
theorem und148k : Tryz.prog.underlying 148 = some (.slice 5) := by kernel_rfl
theorem make_bytes (n : Nat) (hn : n ≤ 1048576) (w : World) :
    (Instr.makeSlice 148 (.int .i64 (n : Int)) (.int .i64 (n : Int))).run Tryz.prog w = .ok (.slice (some ⟨w.heap.size, 0, none⟩) n n) (w.alloc (.cells (madeCells #[.int .u8 0] n) 5)) := by
  obtain ⟨i0, hi, hz0, hz1, hz2⟩ := info_parts info5k
  have := run_make (P := Tryz.prog) (w := w) 148 5 i0 (.int .u8 0) und148k hi hz0 .i64 .i64 (n : Int) (n : Int) (by omega) (by omega) (by rw [hz2]; omega) (by omega)
  rw [this, hz1]
  simp [Value.cells]
theorem byteRow_set {w : World} {g n v : Nat} (h : ByteRow w g n) (hv : v < n) (b : UInt8) : ByteRow (w.setCell ⟨g, v, none⟩ (.int .u8 (b.toNat : Int))) g n := by
  intro p hp
  by_cases e : p = v
  · subst e
    obtain ⟨b0, h0⟩ := h p hp
    exact ⟨b, World.cell?_setCell_same _ _ _ (by rw [h0])⟩
  · obtain ⟨b0, h0⟩ := h p hp
    refine ⟨b0, ?_⟩
    rw [World.cell?_setCell_other _ _ _ _ (by simp)]
    exact h0
def ItoaPost (w : World) (e : Ending) (w' : World) : Prop :=
  ∃ (g o cap : Nat) (l : List UInt8), e = .returned (.slice (some ⟨g, o, none⟩) l.length cap) ∧ (∀ j (hj : j < l.length), w'.cell? ⟨g, o + j, none⟩ = some (.int .u8 (l[j].toNat : Int))) ∧ Below w.heap.size w w'
theorem itoa_fin {w w4 : World} {g n u : Nat} (h : ByteRow w4 g n) (hu : u ≤ n) (hB : Below w.heap.size w w4) : ItoaPost w (.returned (.slice (some ⟨g, u, none⟩) (n - u) (n - u))) w4 := by
  obtain ⟨l, h1, h2⟩ := byteRow_list h (n - u) u (by omega)
  exact ⟨g, u, n - u, l, by rw [h1], h2, hB⟩
set_option maxRecDepth 100000 in
set_option maxHeartbeats 4000000 in
theorem itoa_one (b c : Nat) (t : Int) (neg : Bool) (w : World) (a ae ai au : Addr) (hG : Gl w a ae ai au) (ht0 : 0 < t) (ht : t < 10000000000000000000) (hb : b < w.heap.size) (hR : Reads w b 0 [t]) :
    Calls Tryz.prog 143 #[.slice (some ⟨b, 0, none⟩) 1 c, .bool neg, .int .i64 10] w (ItoaPost w) := by
  have HG := Lib.hid hG
  have HR := Lib.hid hR
  have hW : Words [t] := fun z hz => by rw [List.mem_singleton] at hz; subst hz; exact ⟨by omega, by unfold BW; omega⟩
  have HW := Lib.hid hW
  obtain ⟨N, hN⟩ : ∃ N : Nat, t = (N : Int) := ⟨t.toNat, by omega⟩
  have hbl : blOf [t] = Lib.bitLen N := by unfold blOf; simp [hN]
  have h64 := bitLen_le64 N (by omega)
  obtain ⟨d, hd1, hd2, r, hr1, hr2⟩ := dg_all (blOf [t]) (by omega)
  have htd : t < ten (d + 1) := by
    have h1 := bitLen_lt N (by omega)
    rw [hbl] at hd2
    have h3 : N < 10 ^ (d + 1) := by omega
    unfold ten
    rw [hN]
    exact_mod_cast h3
  have HTD := Lib.hid htd
  have hd20 : d ≤ 64 := by omega
  have hq1 := fun W => run_float_arith (P := Tryz.prog) W .quo 245 .f64 _ _ r hr1
  have hq2 := fun W => run_convert_float_int (P := Tryz.prog) W 245 3 .f64 .i64 r (d : Int) (by kernel_rfl) (by kernel_rfl) hr2
  have hq3 : ∀ W, (convert 3 245 (.int .i64 10)).run Tryz.prog W = .ok (.float .f64 F10) W := fun W => by kernel_rfl
  have hq4 : ∀ W, (convert 3 245 (.int .i64 (blOf [t] : Int))).run Tryz.prog W = .ok (.float .f64 (floatOfInt .f64 (blOf [t] : Int))) W := fun W => run_convert_int_float (P := Tryz.prog) W 3 245 .i64 .f64 _ (by kernel_rfl) (by kernel_rfl)
  clear hG hR hW hN hbl h64 hd1 hd2 hr1 hr2 htd
  generalize hbl2 : blOf [t] = bl at hq1 hq4
  have HBL := Lib.hid hbl2
  clear hbl2
  generalize floatOfInt .f64 (bl : Int) = F at hq1 hq4
  go_enter_defers Tryz.func143, Tryz.ntmps143
  go_upto_if 41 with (first
    | (go_at_call 159; refine (bitLen_any b c [t] _ (by simp) (by simp) HR.out HW.out).mono ?_; rintro e w' ⟨rfl, rfl⟩; rw [HBL.out])
    | (go_at_call 160; refine (Log2_ten _).mono ?_; rintro e w' ⟨rfl, rfl⟩))
  obtain ⟨n, hn1, hn2, hn3, hn4⟩ : ∃ n : Nat, d + 1 ≤ n ∧ n ≤ 66 ∧ Hid (neg = true → n = d + 2) ∧ Hid (neg = false → n = d + 1) := by
    cases neg
    · exact ⟨d + 1, by omega, by omega, fun h => (by cases h), fun _ => rfl⟩
    · exact ⟨d + 2, by omega, by omega, fun _ => rfl, fun h => (by cases h)⟩
  go_cut [7] from 42 to 43 (fun i wx => i = .int .i64 (n : Int) ∧ wx = w)
  case first =>
    cases neg
    · have h1 : (n : Int) = (d : Int) + 1 := by have := hn4.out rfl; omega
      have H1 := Lib.hid h1
      clear h1
      go_wp2_with fail
      go_meet
      exact ⟨by rw [H1.out], rfl⟩
    · have h1 : (n : Int) = (d : Int) + 1 + 1 := by have := hn3.out rfl; omega
      have H1 := Lib.hid h1
      clear h1
      go_wp2_with fail
      go_meet
      exact ⟨by rw [H1.out], rfl⟩
  case rest =>
    obtain ⟨rfl, rfl⟩ := hcut
    have hmk := fun W => make_bytes n (by omega) W
    have hbit : ∀ W, (binOp .and 156 (.int .u64 10) (.int .u64 18446744073709551606)).run Tryz.prog W = .ok (.int .u64 2) W := fun W => by kernel_rfl
    clear hq1 hq2 hq3 hq4 HBL
    go_upto_region 35 with fail
    obtain ⟨W1, hW1⟩ : ∃ W1, W1 = wc.alloc (.cells (madeCells #[.int .u8 0] n) 5) := ⟨_, rfl⟩
    obtain ⟨W2, hW2⟩ : ∃ W2, W2 = W1.alloc (.cells #[.pointer none] 273) := ⟨_, rfl⟩
    have hs1 : W1.heap.size = wc.heap.size + 1 := by rw [hW1, World.size_alloc]
    have hs2 : W2.heap.size = wc.heap.size + 2 := by rw [hW2, World.size_alloc, hs1]
    have hB1 : Below wc.heap.size wc W1 := by rw [hW1]; exact (Below.refl _ _).alloc (Nat.le_refl _) _
    have hB2 : Below wc.heap.size wc W2 := by rw [hW2]; exact hB1.alloc (by omega) _
    have hg2 : W2.heap[wc.heap.size]? = some (.cells (madeCells #[.int .u8 0] n) 5 (0, 0)) := by
      rw [hW2, heap_alloc_old W1 _ (by omega), hW1]
      exact heap_alloc_new wc _
    have hk2 : W2.heap[wc.heap.size + 1]? = some (.cells #[.pointer none] 273 (0, 0)) := by
      rw [hW2, ← hs1]
      exact heap_alloc_new W1 _
    have hR2 : Reads W2 b 0 [t] := fun j hj => by
      rw [hB2.cell (p := ⟨b, 0 + j, none⟩) hb]
      exact HR.out j hj
    have hG2 := gl_below HG.out hB2
    have HB2 := Lib.hid hB2; have HG2 := Lib.hid hG2; have HR2 := Lib.hid hR2; have HK2 := Lib.hid hk2; have HGB := Lib.hid hg2; have HW1 := Lib.hid hW1; have HW2 := Lib.hid hW2
    rw [← hW1]
    clear hW1 hW2 hB1 hB2 hg2 hk2 hR2 hG2 hmk hbit HR HG
    go_upto_region 37 with (go_at_call 162; refine (getStack_any _).mono ?_; rintro e w' ⟨rfl, h⟩; rw [← HW2.out] at h; subst h)
    have hsz2 : (madeCells #[.int .u8 0] n).size = n := size_madeCells _ _
    have HSZ := Lib.hid hsz2
    clear hsz2
    go_upto_region 40 with (first
      | (go_at_call 150; refine (maxPow10 _).mono ?_; rintro e w' ⟨rfl, rfl⟩)
      | (go_at_call 164; refine (divisors_nil _ 1 10 _ _ _ (by omega) HG2.out.leaf).mono ?_; rintro e w' ⟨rfl, rfl⟩)
      | (go_at_call 165; refine (set_any b c [t] _ (by simp) (by simp) (by omega) HR2.out).mono ?_; rintro e w3 ⟨C, rfl, hN3, hC, hB3⟩; have HN3 := Lib.hid hN3; have HB3 := Lib.hid hB3; clear hN3 hB3))
    obtain ⟨curq, hq3, hqs⟩ := HN3.out.blk
    rw [hs2] at hq3
    have hqx : curq[0]? = some (.int .u64 t) := by
      have := HN3.out.rds 0 (by simp)
      rw [Nat.zero_add, hs2, cell_of_row _ _ _ _ _ _ hq3] at this
      simpa using this
    have hfit : 1 ≤ C := by have := HN3.out.fit; simpa using this
    have hC5 : C ≤ 5 := by simpa using hC
    have hg3 : w3.heap[wc.heap.size]? = some (.cells (madeCells #[.int .u8 0] n) 5 (0, 0)) := by
      rw [HB3.out.block _ (by omega)]
      exact HGB.out
    have hk3 : w3.cell? ⟨wc.heap.size + 1, 0, none⟩ = some (.pointer none) := by
      rw [HB3.out.cell (p := ⟨wc.heap.size + 1, 0, none⟩) (by simp; omega), cell_of_row _ _ _ _ _ _ HK2.out]
      rfl
    have hs3 : wc.heap.size + 3 ≤ w3.heap.size := by
      have := (Array.getElem?_eq_some_iff.1 hq3).1
      omega
    have HQ3 := Lib.hid hq3; have HQX := Lib.hid hqx; have HG3 := Lib.hid hg3; have HK3 := Lib.hid hk3
    clear hq3 hqx hg3 hk3 hqs hC
    go_upto_region 41 with (go_at_call 166; refine (convert_one (wc.heap.size + 2) C wc.heap.size n (wc.heap.size + 1) t curq _ ht0 ht (by omega) hfit (by omega) (by omega) _ HQ3.out HQX.out HG3.out HSZ.out).mono ?_; rintro e w4 ⟨⟨v, rfl⟩, hSg⟩; have HSg := Lib.hid hSg; clear hSg)
    go_upto_region 42 with fail
    go_loopw [7] (fun i wx => ∃ u : Nat, i = .int .i64 u ∧ u < n ∧ Hid (∀ p, p < u → dgt t (n - 1 - p) = 48) ∧ w4 = wx) (fun i _ => n - (intOf i).toNat)
    case atStart => exact ⟨0, rfl, by omega, fun p hp => absurd hp (by omega), rfl⟩
    case round =>
      obtain ⟨u, rfl, hu, HZ, rfl⟩ := hrel
      obtain ⟨cur, hc1, hc2, hc3⟩ := HSg.out.blk
      obtain ⟨D, hD⟩ : ∃ D, D = dgt t (n - 1 - u) := ⟨_, rfl⟩
      have hcu : w4.cell? ⟨wc.heap.size, u, none⟩ = some (.int .u8 D) := by
        rw [cell_of_row _ _ _ _ _ _ hc1, hc3 u (by omega) hu, hD]
      have HDD := Lib.hid hD
      clear hc1 hc2 hc3 hD
      by_cases h48 : D = 48
      · subst h48
        have hu1 : u + 1 < n := by
          obtain ⟨e, he, hne⟩ := some_digit t (d + 1) ht0 HTD.out
          refine Classical.byContradiction fun hno => hne ?_
          have e1 : n - 1 - (n - 1 - e) = e := by omega
          by_cases h2 : n - 1 - e = u
          · rw [← e1, h2]
            exact HDD.out.symm
          · rw [← e1]
            exact HZ.out _ (by omega)
        go_wp2_with fail
        refine ⟨⟨u + 1, by go_num, hu1, fun p hp => ?_, trivial⟩, by simp [intOf] <;> omega⟩
        by_cases h2 : p = u
        · subst h2
          exact HDD.out.symm
        · exact HZ.out p (by omega)
      · have hb48 : ((D : Int) == 48) = false := by rw [beq_eq_false_iff_ne]; exact h48
        have H48 := Lib.hid h48
        clear h48
        have hBR := sg_byteRow HSg.out
        have hBW : Below wc.heap.size wc w4 := kp_new HSg.out.kp (HB2.out.trans (HB3.out.mono (by omega))) (by simp)
        have hK4 : w4.cell? ⟨wc.heap.size + 1, 0, none⟩ = some (.pointer none) := HSg.out.kp.cell HK3.out (by simp)
        have HBR := Lib.hid hBR; have HBW := Lib.hid hBW; have HK4 := Lib.hid hK4
        clear hBR hBW hK4
        cases neg
        · go_wp2_with fail
          refine leaves_cons (f := 163) (args := #[.pointer (some ⟨wc.heap.size + 1, 0, none⟩)]) (by simp) (by simp [go_sem]) ?_
          refine (free_d (wc.heap.size + 1) .returning _ HK4.out).mono ?_
          rintro e u' w'' ⟨rfl, rfl, rfl⟩
          exact ⟨.slice (some ⟨wc.heap.size, u, none⟩) (n - u) (n - u), by simp [results, Tryz.results143, go_sem], itoa_fin HBR.out (by omega) HBW.out⟩
        · have hu0 : u ≠ 0 := fun e => by
            subst e
            have h1 := HDD.out
            have h2 := hn3.out rfl
            rw [show n - 1 - 0 = d + 1 by omega] at h1
            refine H48.out ?_
            rw [h1]
            unfold dgt
            rw [Int.ediv_eq_zero_of_lt (by omega) HTD.out]
            rfl
          obtain ⟨v, rfl⟩ := Nat.exists_eq_succ_of_ne_zero hu0
          rw [Nat.succ_eq_add_one] at *
          obtain ⟨⟨c0, hc0⟩, hf0⟩ := sg_cell HSg.out v (by omega)
          have hvn : v < n := by omega
          go_wp2_with fail
          refine leaves_cons (f := 163) (args := #[.pointer (some ⟨wc.heap.size + 1, 0, none⟩)]) (by simp) (by simp [go_sem]) ?_
          refine (free_d (wc.heap.size + 1) .returning _ ?_).mono ?_
          · rw [World.cell?_setCell_other _ _ _ _ (by simp)]
            exact HK4.out
          rintro e u' w'' ⟨rfl, rfl, rfl⟩
          exact ⟨.slice (some ⟨wc.heap.size, v, none⟩) (n - v) (n - v), by simp [results, Tryz.results143, go_sem], itoa_fin (byteRow_set HBR.out hvn 45) (by omega) (HBW.out.setCell (by simp) _)⟩
end Go.Proofs.YtoofphhfealcaaaGreatDoor

namespace Go.Proofs.YtoofphhfealcaaaGreatDoor
open Go.RowKit

set_option maxRecDepth 100000 in
set_option maxHeartbeats 4000000 in
theorem itoa_zero (A : Option Addr) (c : Nat) (neg : Bool) (w : World) : Calls Tryz.prog 143 #[.slice A 0 c, .bool neg, .int .i64 10] w (ItoaPost w) := by
  have hcv := Lib.run_convert_bytes_const (P := Tryz.prog) w 148 5 #[.int .u8 48] 1 1 und148k und5
  go_enter_defers Tryz.func143, Tryz.ntmps143
  go_wp2_with fail
  refine ⟨.slice (some ⟨w.heap.size, 0, none⟩) 1 1, by simp [results, Tryz.results143, go_sem], ?_⟩
  refine ⟨w.heap.size, 0, 1, [48], rfl, fun j hj => ?_, (Below.refl _ _).alloc (Nat.le_refl _) _⟩
  have : j = 0 := by simp at hj; omega
  subst this
  rw [Nat.zero_add]
  exact World.cell?_alloc_mark w _ 5 _ 0
theorem decV_le : ∀ (n : Nat) (l : List UInt8), l.length = n → l.all isDig = true → 0 ≤ decV l ∧ decV l < ten l.length
  | 0, l, hl, _ => by
    obtain rfl := List.eq_nil_of_length_eq_zero hl
    simp [decV, ten_zero]
  | n + 1, l0, hl, h0 => by
    obtain ⟨l, c, rfl⟩ : ∃ l c, l0 = l ++ [c] := ⟨l0.dropLast, l0.getLast (by intro e; rw [e] at hl; simp at hl), (List.dropLast_concat_getLast _).symm⟩
    have h := h0
    rw [List.all_append, Bool.and_eq_true] at h
    obtain ⟨h1, h2⟩ := decV_le n l (by simpa using hl) h.1
    have hc := dig_rng (by simpa using h.2 : isDig c = true)
    rw [decV_snoc, List.length_append, List.length_singleton, ten_succ]
    omega
theorem words_one {xs : List Int} (hw : Words xs) (hn : nrm xs = xs) (hv : val xs < BW) : xs = [] ∨ ∃ t, xs = [t] ∧ 0 < t ∧ val xs = t := by
  match xs, hw, hn, hv with
  | [], _, _, _ => exact .inl rfl
  | [t], hw, hn, hv =>
    have := val_pos [t] hw hn (by simp)
    simp only [val] at this
    exact .inr ⟨t, rfl, by omega, by simp [val]⟩
  | t :: u :: r, hw, hn, hv =>
    exfalso
    have ht := hw t (by simp)
    have hn2 : nrm (u :: r) = u :: r := by
      by_cases h : nrm (u :: r) = [] ∧ t = 0
      · rw [nrm, if_pos h] at hn; simp at hn
      · rw [nrm, if_neg h] at hn
        injection hn
    have hp := val_pos (u :: r) (fun z hz => hw z (by simp [hz])) hn2 (by simp)
    rw [val] at hv
    have : BW * 1 ≤ BW * val (u :: r) := Int.mul_le_mul_of_nonneg_left (by omega) (by unfold BW; omega)
    omega
set_option maxRecDepth 100000 in
set_option maxHeartbeats 4000000 in
theorem text_any (ib : Nat) (neg : Bool) (z : Value) (w : World) (hI : IntB w ib neg z) (hit : ∀ W, w.heap.size ≤ W.heap.size → Below w.heap.size w W → Calls Tryz.prog 143 #[z, .bool neg, .int .i64 10] W (ItoaPost W)) :
    Calls Tryz.prog 123 #[.pointer (some ⟨ib, 0, none⟩), .int .i64 10] w fun e w' => ∃ t, e = .returned (.string t) ∧ Below w.heap.size w w' := by
  obtain ⟨c0, c1, f0, f1, hlt⟩ := intB_cells hI
  have HIT := Lib.hid hit
  clear hI hit
  go_enter Tryz.func123, Tryz.ntmps123
  go_wp2_with fail
  go_still_tail 9, (by kernel_rfl)
  change wpList _ _ _ _ _ w.drew
  have hB0 : Below w.heap.size w w.drew := (Below.refl _ _).drew
  generalize w.drew = w2 at hB0 ⊢
  have HB0 := Lib.hid hB0
  clear hB0
  go_wp2_with (go_at_call 143; refine (HIT.out _ HB0.out.size HB0.out).mono ?_; rintro e w3 ⟨g, o, cap, l, rfl, hc, hB⟩; have hcv := run_convert_bytes_back (P := Tryz.prog) w3 148 9 5 ⟨g, o, none⟩ cap l und148k und5 und9 (fun j hj => by rw [Addr.add_lit]; exact hc j hj); have HB := Lib.hid hB; clear hc hB)
  go_ret
  exact ⟨_, rfl, HB0.out.trans (HB.out.mono HB0.out.size)⟩
theorem string_any (ib : Nat) (neg : Bool) (z : Value) (w : World) (hI : IntB w ib neg z) (hit : ∀ W, w.heap.size ≤ W.heap.size → Below w.heap.size w W → Calls Tryz.prog 143 #[z, .bool neg, .int .i64 10] W (ItoaPost W)) :
    Calls Tryz.prog 85 #[.pointer (some ⟨ib, 0, none⟩)] w fun e w' => ∃ t, e = .returned (.string t) ∧ Below w.heap.size w w' := by
  have HI := Lib.hid hI
  have HIT := Lib.hid hit
  clear hI hit
  go_enter Tryz.func85, Tryz.ntmps85
  go_wp2_with (go_at_call 123; refine (text_any ib neg z _ HI.out HIT.out).mono ?_; rintro e w' ⟨t, rfl, hB⟩; have HB := Lib.hid hB; clear hB)
  go_ret
  exact ⟨_, rfl, HB.out⟩
/-- Numbers of at most 19 digits have a text. -/
theorem strOK_19 : StrOK 19 := by
  intro w base p s a ae ai au hG hB hn hs
  obtain ⟨z, xs, n2, b1, b2, b3, b4, b5, b6, b7⟩ := hB.ex
  refine string_any p n2 z w b1 (fun W hW hBW => ?_)
  have hv := hn
  unfold isNum at hv
  rw [Bool.and_eq_true] at hv
  obtain ⟨v0, v1⟩ := decV_le _ _ rfl hv.2
  have hlen : (body (bs s)).length ≤ 19 := by
    have h1 : (body (bs s)).length ≤ (bs s).length := by
      rw [← drop_from]
      simp
    rw [bs_len] at h1
    omega
  have v2 : decV (body (bs s)) < 10000000000000000000 := by
    have := ten_mono hlen
    rw [ten19] at this
    omega
  rw [← b5] at v0 v2
  rcases words_one b3 b4 (by unfold BW; omega) with rfl | ⟨t, rfl, ht0, htv⟩
  · rcases nat_cases b2 with ⟨rfl, _⟩ | ⟨b, c, cur, rfl, _⟩
    · exact itoa_zero none 0 n2 W
    · exact itoa_zero _ c n2 W
  · rcases nat_cases b2 with ⟨_, h⟩ | ⟨b, c, cur, rfl, h1, h2, h3, h4, h5, h6, h7⟩
    · cases h
    · refine itoa_one b c t n2 W a ae ai au (gl_below hG hBW) ht0 (by omega) (by omega) (fun j hj => ?_)
      rw [hBW.cell (p := ⟨b, 0 + j, none⟩) h2]
      exact h7 j hj
end Go.Proofs.YtoofphhfealcaaaGreatDoor
