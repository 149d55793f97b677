/-
  WALKS: strings.Reader's ReadByte and UnreadByte; maxPow, pow.
  WALKS: scanSign.
-/
import Derived.Test.YtoofphhfealcaaaGreatDoorC3
import Derived.Deep.RegionWith
namespace Go.Proofs.YtoofphhfealcaaaGreatDoor
open Go.RowKit

/-- A reader over s that stands at i. -/
def Rd (w : World) (rb : Nat) (s : ByteArray) (i : Nat) : Prop := ∃ p : Int, w.heap[rb]? = some (.cells #[.string s, .int .i64 i, .int .i64 p] 189 (0, 0))
theorem rd_cells {w : World} {rb : Nat} {s : ByteArray} {i : Nat} (h : Rd w rb s i) : w.cell? ⟨rb, 0, none⟩ = some (.string s) ∧ w.cell? ⟨rb, 1, none⟩ = some (.int .i64 i) ∧ (∃ p : Int, w.cell? ⟨rb, 2, none⟩ = some (.int .i64 p)) ∧ w.frozen? ⟨rb, 1, none⟩ = false ∧ w.frozen? ⟨rb, 2, none⟩ = false ∧ rb < w.heap.size := by
  obtain ⟨p, h⟩ := h
  refine ⟨by rw [cell_of_row w rb 0 _ _ _ h]; rfl, by rw [cell_of_row w rb 1 _ _ _ h]; rfl, ⟨p, by rw [cell_of_row w rb 2 _ _ _ h]; rfl⟩, frozen_of_row _ _ _ _ _ h, frozen_of_row _ _ _ _ _ h, (Array.getElem?_eq_some_iff.1 h).1⟩
theorem rd_set {w : World} {rb : Nat} {s : ByteArray} {i : Nat} (h : Rd w rb s i) (k : Nat) (q : Int) : Rd ((w.setCell ⟨rb, 2, none⟩ (.int .i64 q)).setCell ⟨rb, 1, none⟩ (.int .i64 k)) rb s k := by
  obtain ⟨p, h⟩ := h
  exact ⟨q, by rw [heap_setCell_at _ _ _ _ _ _ _ (heap_setCell_at _ _ _ _ _ _ _ h)]; rfl⟩
theorem rd_set2 {w : World} {rb : Nat} {s : ByteArray} {i : Nat} (h : Rd w rb s i) (q : Int) : Rd (w.setCell ⟨rb, 2, none⟩ (.int .i64 q)) rb s i := by
  obtain ⟨p, h⟩ := h
  exact ⟨q, by rw [heap_setCell_at _ _ _ _ _ _ _ h]; rfl⟩
theorem grown_set {w w1 : World} {rb : Nat} (h : w.grownBy w1 (some rb)) (o : Nat) (v : Value) : w.grownBy (w1.setCell ⟨rb, o, none⟩ v) (some rb) :=
  ⟨h.os, h.tape, h.output, by have := h.size; simpa [World.setCell] using this, fun k hk hne => by
    rw [Below.heap_setCell _ _ _ _ (fun e => hne (by rw [e])), h.block k hk hne]⟩
theorem grown_refl (w : World) (r : Option Nat) : w.grownBy w r := ⟨rfl, rfl, rfl, Nat.le_refl _, fun _ _ _ => rfl⟩
theorem grown_drewN {w w1 : World} {r : Option Nat} (h : w.grownBy w1 r) (n : Nat) : w.grownBy (w1.drewN n) r := ⟨h.os, h.tape, h.output, h.size, h.block⟩

set_option maxHeartbeats 1000000 in
theorem readByte_some (rb : Nat) (s : ByteArray) (i : Nat) (w : World) (h : Rd w rb s i) (hi : i < s.size) (hs : s.size ≤ 4294967296) :
    Calls Tryz.prog 360 #[.pointer (some ⟨rb, 0, none⟩)] w fun e w' => e = .returned (.tuple #[.int .u8 s[i].toNat, .nilIface]) ∧ Rd w' rb s (i + 1) ∧ w.grownBy w' (some rb) := by
  obtain ⟨c0, c1, ⟨p, c2⟩, f1, f2, hlt⟩ := rd_cells h
  have HR := Lib.hid h
  clear h
  have hle : decide (s.size ≤ i) = false := by simp; omega
  go_enter Tryz.func360, Tryz.ntmps360
  go_wp2_with fail
  go_quiet (fail)
  go_wp2_with fail
  go_quiet (fail)
  go_wp2_with fail
  go_ret2
  refine ⟨rfl, ?_, ?_⟩
  · exact rd_set HR.out (i + 1) (-1)
  · repeat (first | exact grown_refl _ _ | apply grown_set | apply grown_drewN)
set_option maxHeartbeats 1000000 in
theorem readByte_end (rb : Nat) (s : ByteArray) (w : World) (eof : Value) (h : Rd w rb s s.size) (heof : w.cell? ⟨3, 0, none⟩ = some eof) (_hrb : rb ≠ 3) (_hs : s.size ≤ 4294967296) :
    Calls Tryz.prog 360 #[.pointer (some ⟨rb, 0, none⟩)] w fun e w' => e = .returned (.tuple #[.int .u8 0, eof]) ∧ Rd w' rb s s.size ∧ w.grownBy w' (some rb) := by
  obtain ⟨c0, c1, ⟨p, c2⟩, f1, f2, hlt⟩ := rd_cells h
  have HR := Lib.hid h
  clear h
  have hle : decide (s.size ≤ s.size) = true := by simp
  have hc3 : (w.setCell ⟨rb, 2, none⟩ (.int .i64 (-1))).cell? ⟨3, 0, none⟩ = some eof := by
    rw [World.cell?_setCell_other _ _ _ _ (by intro e; injection e with e; omega)]; exact heof
  go_enter Tryz.func360, Tryz.ntmps360
  go_wp2_with fail
  go_quiet (fail)
  go_wp2_with fail
  go_quiet (fail)
  go_wp2_with fail
  go_ret2
  refine ⟨rfl, ?_, ?_⟩
  · exact rd_set2 HR.out (-1)
  · repeat (first | exact grown_refl _ _ | apply grown_set | apply grown_drewN)
set_option maxHeartbeats 1000000 in
theorem unreadByte_any (rb : Nat) (s : ByteArray) (i : Nat) (w : World) (h : Rd w rb s (i + 1)) (hi : i < s.size) (hs : s.size ≤ 4294967296) :
    Calls Tryz.prog 361 #[.pointer (some ⟨rb, 0, none⟩)] w fun e w' => e = .returned .nilIface ∧ Rd w' rb s i ∧ w.grownBy w' (some rb) := by
  obtain ⟨c0, c1, ⟨p, c2⟩, f1, f2, hlt⟩ := rd_cells h
  have HR := Lib.hid h
  clear h
  have hle : decide (((i + 1 : Nat) : Int) ≤ 0) = false := by simp
  go_enter Tryz.func361, Tryz.ntmps361
  go_wp2_with fail
  go_ret
  refine ⟨rfl, ?_, ?_⟩
  · exact rd_set HR.out i (-1)
  · exact grown_set (grown_set (grown_refl w _) _ _) _ _

/-- 10 to k. -/
def ten (k : Nat) : Int := 10 ^ k
theorem ten_succ (k : Nat) : ten (k + 1) = ten k * 10 := by unfold ten; exact Int.pow_succ 10 k
theorem ten_zero : ten 0 = 1 := rfl
theorem ten_pos : ∀ k, 1 ≤ ten k
  | 0 => by simp [ten]
  | k + 1 => by have := ten_pos k; rw [ten_succ]; omega
theorem ten_mono : ∀ {j k : Nat}, j ≤ k → ten j ≤ ten k
  | j, 0, h => by obtain rfl : j = 0 := by omega
                  exact Int.le_refl _
  | j, k + 1, h => by
    by_cases e : j = k + 1
    · rw [e]; exact Int.le_refl _
    · have := ten_mono (j := j) (k := k) (by omega)
      have := ten_pos k
      rw [ten_succ]; omega
set_option maxHeartbeats 1000000 in
theorem maxPow10 (w : World) : Calls Tryz.prog 150 #[.int .u64 10] w fun e w' => e = .returned (.tuple #[.int .u64 10000000000000000000, .int .i64 19]) ∧ w = w' := by
  go_enter Tryz.func150, Tryz.ntmps150
  go_wp2_with fail
  go_loop [2, 3] (fun p n => ∃ k : Nat, k ≤ 18 ∧ p = .int .u64 (ten (k + 1)) ∧ n = .int .i64 ((k + 1 : Nat) : Int)) (fun _ n => 19 - (intOf n).toNat)
  case atStart => exact ⟨0, by omega, rfl, rfl⟩
  case round =>
    obtain ⟨k, hk, rfl, rfl⟩ := hrel
    have h1 := ten_pos (k + 1)
    by_cases h : k ≤ 17
    · have h2 := ten_mono (j := k + 1) (k := 18) (by omega)
      have h3 : ten (k + 1) ≤ 1000000000000000000 := h2
      have hle : decide (ten (k + 1) ≤ 1844674407370955161) = true := by simp; omega
      have HS : Hid (ten (k + 1 + 1) = ten (k + 1) * 10) := ten_succ _
      clear h2
      generalize ten (k + 1) = p at *
      go_wp2_with fail
      go_round
      case rel => exact ⟨k + 1, by omega, by rw [HS.out], by go_num⟩
      case measure => simp [intOf]; omega
    · have hk18 : k = 18 := by omega
      subst hk18
      have e : ten (18 + 1) = 10000000000000000000 := by decide
      rw [e]
      go_wp2_with fail
      go_ret2
      exact ⟨rfl, rfl⟩

theorem pow_emod (a m : Int) : ∀ k : Nat, ((a % m) ^ k) % m = (a ^ k) % m
  | 0 => by simp
  | k + 1 => by rw [Int.pow_succ, Int.pow_succ, Int.mul_emod, pow_emod a m k, Int.emod_emod_of_dvd _ (Int.dvd_refl m), ← Int.mul_emod]
theorem sq_pow (x : Int) : ∀ j : Nat, (x * x) ^ j = x ^ (2 * j)
  | 0 => by simp
  | j + 1 => by rw [Int.pow_succ, sq_pow x j, show 2 * (j + 1) = 2 * j + 1 + 1 by omega, Int.pow_succ, Int.pow_succ, Int.mul_assoc]
theorem bit0 (k : Nat) (hk : k ≤ 19) : bits BinOp.and IntKind.i64 (k : Int) 1 = ((k % 2 : Nat) : Int) := by
  have h : ∀ j : Fin 20, bits BinOp.and IntKind.i64 ((j : Nat) : Int) 1 = (((j : Nat) % 2 : Nat) : Int) := by decide
  exact h ⟨k, by omega⟩
def pinv (p x : Int) (n N : Nat) : Prop := (p * x ^ n) % BW = ten N
theorem pinv_even {p x : Int} {n N : Nat} (h : pinv p x n N) (he : n % 2 = 0) : pinv p (IntKind.u64.wrap (x * x)) (n / 2) N := by
  unfold pinv at *
  have e : x ^ n = (x * x) ^ (n / 2) := by rw [sq_pow]; congr 1; omega
  rw [IntKind.wrap_u64, ← h, e, show (18446744073709551616 : Int) = BW from rfl, Int.mul_emod, pow_emod, ← Int.mul_emod]
theorem pinv_odd {p x : Int} {n N : Nat} (h : pinv p x n N) (he : n % 2 = 1) : pinv (IntKind.u64.wrap (p * x)) (IntKind.u64.wrap (x * x)) (n / 2) N := by
  unfold pinv at *
  have e : x ^ n = x * (x * x) ^ (n / 2) := by rw [sq_pow, Int.mul_comm, ← Int.pow_succ]; congr 1; omega
  rw [IntKind.wrap_u64, IntKind.wrap_u64, ← h, e, show (18446744073709551616 : Int) = BW from rfl, ← Int.mul_assoc, Int.mul_emod (p * x % BW), pow_emod, Int.emod_emod_of_dvd _ (Int.dvd_refl BW), ← Int.mul_emod]
theorem wrap_rng (x : Int) : 0 ≤ IntKind.u64.wrap x ∧ IntKind.u64.wrap x < BW := by rw [IntKind.wrap_u64]; unfold BW; omega
set_option maxHeartbeats 1000000 in
theorem pow10_any (N : Nat) (w : World) (hN : N ≤ 19) : Calls Tryz.prog 152 #[.int .u64 10, .int .i64 N] w fun e w' => e = .returned (.int .u64 (ten N)) ∧ w = w' := by
  go_enter Tryz.func152, Tryz.ntmps152
  go_wp2_with fail
  go_loop [0, 1, 4] (fun x n p => ∃ (X P : Int) (k : Nat), k ≤ 19 ∧ x = .int .u64 X ∧ n = .int .i64 k ∧ p = .int .u64 P ∧ Hid (0 ≤ P ∧ P < BW) ∧ Hid (pinv P X k N)) (fun _ n _ => (intOf n).toNat)
  case atStart => exact ⟨10, 1, N, hN, rfl, rfl, rfl, by show _ ∧ _; unfold BW; omega, by show _ = _; rw [Int.one_mul, show (10 : Int) ^ N = ten N from rfl]; have := ten_pos N; have h2 := ten_mono hN; have h3 : ten 19 = 10000000000000000000 := by decide
                                                                                          unfold BW; omega⟩
  case round =>
    obtain ⟨X, P, k, hk, rfl, rfl, rfl, HP, HI⟩ := hrel
    by_cases h0 : 0 < k
    · have hpos : decide ((0 : Int) < (k : Int)) = true := by simp; omega
      have hb := bit0 k hk
      by_cases h2 : k % 2 = 0
      · have ht : (bits BinOp.and IntKind.i64 (k : Int) 1 != 0) = false := by rw [hb, h2]; rfl
        have HS := Lib.hid (pinv_even HI.out h2)
        go_wp2_with fail
        go_round
        case rel => exact ⟨_, _, k / 2, by omega, rfl, by go_num, rfl, HP, HS⟩
        case measure => simp [intOf]; omega
      · have ht : (bits BinOp.and IntKind.i64 (k : Int) 1 != 0) = true := by rw [hb, show k % 2 = 1 by omega]; rfl
        have HS := Lib.hid (pinv_odd HI.out (by omega))
        go_wp2_with fail
        go_round
        case rel => exact ⟨_, _, k / 2, by omega, rfl, by go_num, rfl, wrap_rng _, HS⟩
        case measure => simp [intOf]; omega
    · have h00 : k = 0 := by omega
      subst h00
      have HE : Hid (P = ten N) := by
        have h := HI.out
        have hp := HP.out
        unfold pinv at h
        rw [Int.pow_zero, Int.mul_one, Int.emod_eq_of_lt hp.1 hp.2] at h
        exact h
      go_wp2_with fail
      go_ret
      exact ⟨by rw [HE.out]; rfl, rfl⟩

end Go.Proofs.YtoofphhfealcaaaGreatDoor

namespace Go.Proofs.YtoofphhfealcaaaGreatDoor
open Go.RowKit

theorem method_read (a : Addr) (w : World) : (method 493 150 (.pointer (some a)) "ReadByte").run Tryz.prog w = .ok (360, .pointer (some a)) w := by kernel_rfl
theorem method_unread (a : Addr) (w : World) : (method 493 150 (.pointer (some a)) "UnreadByte").run Tryz.prog w = .ok (361, .pointer (some a)) w := by kernel_rfl
theorem grown_trans {a b c : World} {r : Option Nat} (h : a.grownBy b r) (k : b.grownBy c r) : a.grownBy c r := World.grownBy.trans h k

/-- Is the byte a sign? -/
def isSign (c : UInt8) : Bool := c == 43 || c == 45
set_option maxRecDepth 100000 in
set_option maxHeartbeats 1000000 in
theorem scanSign_no (rb : Nat) (s : ByteArray) (w : World) (h : Rd w rb s 0) (h0 : 0 < s.size) (hs : s.size ≤ 4294967296) (hn : isSign (s[0]'h0) = false) :
    Calls Tryz.prog 134 #[.iface 150 (.pointer (some ⟨rb, 0, none⟩))] w fun e w' => e = .returned (.tuple #[.bool false, .nilIface]) ∧ Rd w' rb s 0 ∧ w.grownBy w' (some rb) := by
  have m1 := method_read ⟨rb, 0, none⟩
  have m2 := method_unread ⟨rb, 0, none⟩
  have hc1 : (((s[0]'h0).toNat : Int) == 45) = false := by
    simp [isSign] at hn
    rw [beq_eq_false_iff_ne]
    intro e
    exact hn.2 (UInt8.toNat_inj.1 (by show _ = 45; omega))
  have hc2 : (((s[0]'h0).toNat : Int) == 43) = false := by
    simp [isSign] at hn
    rw [beq_eq_false_iff_ne]
    intro e
    exact hn.1 (UInt8.toNat_inj.1 (by show _ = 43; omega))
  have HR := Lib.hid h
  have HN := Lib.hid hn
  clear h hn
  go_enter Tryz.func134, Tryz.ntmps134
  go_wp2_with (first
    | (go_at_call 360; refine (readByte_some rb s 0 _ HR.out h0 hs).mono ?_; rintro e w1 ⟨rfl, hR1, hG1⟩; have HR1 := Lib.hid hR1; have HG1 := Lib.hid hG1; clear hR1 hG1)
    | (go_at_call 361; refine (unreadByte_any rb s 0 _ HR1.out h0 hs).mono ?_; rintro e w2 ⟨rfl, hR2, hG2⟩; have HR2 := Lib.hid hR2; have HG2 := Lib.hid hG2; clear hR2 hG2))
  go_ret2
  exact ⟨rfl, HR2.out, grown_trans HG1.out HG2.out⟩
set_option maxRecDepth 100000 in
set_option maxHeartbeats 1000000 in
theorem scanSign_yes (rb : Nat) (s : ByteArray) (w : World) (h : Rd w rb s 0) (h0 : 0 < s.size) (hs : s.size ≤ 4294967296) (hn : isSign (s[0]'h0) = true) :
    Calls Tryz.prog 134 #[.iface 150 (.pointer (some ⟨rb, 0, none⟩))] w fun e w' => e = .returned (.tuple #[.bool (s[0]'h0 == 45), .nilIface]) ∧ Rd w' rb s 1 ∧ w.grownBy w' (some rb) := by
  have m1 := method_read ⟨rb, 0, none⟩
  by_cases hm : s[0]'h0 = 45
  · have hc1 : (((s[0]'h0).toNat : Int) == 45) = true := by rw [hm]; rfl
    have hb : (s[0]'h0 == 45) = true := by rw [hm]; rfl
    have HR := Lib.hid h
    have HB := Lib.hid hb
    clear h hn hm hb
    go_enter Tryz.func134, Tryz.ntmps134
    go_wp2_with (first
      | (go_at_call 360; refine (readByte_some rb s 0 _ HR.out h0 hs).mono ?_; rintro e w1 ⟨rfl, hR1, hG1⟩; have HR1 := Lib.hid hR1; have HG1 := Lib.hid hG1; clear hR1 hG1))
    go_ret2
    exact ⟨by rw [HB.out]; rfl, HR1.out, HG1.out⟩
  · have hm' : s[0]'h0 = 43 := by simpa [isSign, hm] using hn
    have hc1 : (((s[0]'h0).toNat : Int) == 45) = false := by rw [hm']; rfl
    have hc2 : (((s[0]'h0).toNat : Int) == 43) = true := by rw [hm']; rfl
    have hb : (s[0]'h0 == 45) = false := by rw [hm']; rfl
    have HR := Lib.hid h
    have HB := Lib.hid hb
    clear h hn hm hm' hb
    go_enter Tryz.func134, Tryz.ntmps134
    go_wp2_with (first
      | (go_at_call 360; refine (readByte_some rb s 0 _ HR.out h0 hs).mono ?_; rintro e w1 ⟨rfl, hR1, hG1⟩; have HR1 := Lib.hid hR1; have HG1 := Lib.hid hG1; clear hR1 hG1))
    go_ret2
    exact ⟨by rw [HB.out]; rfl, HR1.out, HG1.out⟩
set_option maxRecDepth 100000 in
set_option maxHeartbeats 1000000 in
theorem scanSign_end (rb : Nat) (s : ByteArray) (w : World) (T : TypeId) (a : Addr) (h : Rd w rb s s.size) (heof : w.cell? ⟨3, 0, none⟩ = some (.iface T (.pointer (some a)))) (hrb : rb ≠ 3) (hs : s.size ≤ 4294967296) :
    Calls Tryz.prog 134 #[.iface 150 (.pointer (some ⟨rb, 0, none⟩))] w fun e w' => e = .returned (.tuple #[.bool false, .iface T (.pointer (some a))]) ∧ Rd w' rb s s.size ∧ w.grownBy w' (some rb) := by
  have m1 := method_read ⟨rb, 0, none⟩
  have HR := Lib.hid h
  clear h
  go_enter Tryz.func134, Tryz.ntmps134
  go_wp2_with (first
    | (go_at_call 360; refine (readByte_end rb s _ _ HR.out heof hrb hs).mono ?_; rintro e w1 ⟨rfl, hR1, hG1⟩; have HR1 := Lib.hid hR1; have HG1 := Lib.hid hG1; clear hR1 hG1))
  go_ret2
  exact ⟨rfl, HR1.out, HG1.out⟩

end Go.Proofs.YtoofphhfealcaaaGreatDoor
