/-
  WALKS: PyPI's versions, at texts of ASCII: what reads them byte by byte.
  WALKS: PyPI's versions, at texts of ASCII: the pieces of those that PEP 440 does not know; local versions; letters and numbers.
  WALKS: PyPI's versions, at texts of ASCII: local versions; letters and numbers; the match of PEP 440's expression.
-/
import Derived.Test.YtoofphhfealcaaaGreatDoorH1
import Derived.Test.YtoofphhfealcaaaGreatDoorF2
namespace Go.Proofs.YtoofphhfealcaaaGreatDoor
open Go.RowKit

/-- A place behind i in a text of n bytes, and the world as it was. -/
def AtPost (w : World) (i n : Nat) (e : Ending) (w' : World) : Prop := ∃ j : Nat, e = .returned (.int .i64 j) ∧ i ≤ j ∧ j ≤ n ∧ w = w'
set_option maxRecDepth 100000 in
set_option maxHeartbeats 2000000 in
theorem zzBlanks_any (s : ByteArray) (i : Nat) (w : World) (hi : i ≤ s.size) (hs : s.size ≤ 4294967296) : Calls Tryz.prog 95 #[.string s, .int .i64 i] w (AtPost w i s.size) := by
  go_enter Tryz.func95, Tryz.ntmps95
  go_wp2_with fail
  go_loopw [1] (fun v wr => ∃ k : Nat, v = .int .i64 k ∧ i ≤ k ∧ k ≤ s.size ∧ wr = w) (fun v _ => s.size - (intOf v).toNat)
  case atStart => exact ⟨i, rfl, Nat.le_refl _, hi, rfl⟩
  case round =>
    obtain ⟨k, rfl, h1, h2, rfl⟩ := hrel
    by_cases hlt : k < s.size
    · by_cases q32 : (((s[k]'hlt).toNat : Int) == 32) = true
      · go_wp2_with fail
        go_roundw
        case rel => exact ⟨k + 1, by go_num, by omega, by omega, trivial⟩
        case measure => simp only [intOf]; omega
      · have q32' : (((s[k]'hlt).toNat : Int) == 32) = false := by simpa using q32
        clear q32
        by_cases q9 : (((s[k]'hlt).toNat : Int) == 9) = true
        · go_wp2_with fail
          go_roundw
          case rel => exact ⟨k + 1, by go_num, by omega, by omega, trivial⟩
          case measure => simp only [intOf]; omega
        · have q9' : (((s[k]'hlt).toNat : Int) == 9) = false := by simpa using q9
          clear q9
          by_cases q10 : (((s[k]'hlt).toNat : Int) == 10) = true
          · go_wp2_with fail
            go_roundw
            case rel => exact ⟨k + 1, by go_num, by omega, by omega, trivial⟩
            case measure => simp only [intOf]; omega
          · have q10' : (((s[k]'hlt).toNat : Int) == 10) = false := by simpa using q10
            clear q10
            by_cases q12 : (((s[k]'hlt).toNat : Int) == 12) = true
            · go_wp2_with fail
              go_roundw
              case rel => exact ⟨k + 1, by go_num, by omega, by omega, trivial⟩
              case measure => simp only [intOf]; omega
            · have q12' : (((s[k]'hlt).toNat : Int) == 12) = false := by simpa using q12
              clear q12
              by_cases q13 : (((s[k]'hlt).toNat : Int) == 13) = true
              · go_wp2_with fail
                go_roundw
                case rel => exact ⟨k + 1, by go_num, by omega, by omega, trivial⟩
                case measure => simp only [intOf]; omega
              · have q13' : (((s[k]'hlt).toNat : Int) == 13) = false := by simpa using q13
                clear q13
                go_wp2_with fail
                go_ret
                exact ⟨k, rfl, by omega, by omega, rfl⟩
    · go_wp2_with fail
      go_ret
      exact ⟨k, rfl, by omega, by omega, rfl⟩
set_option maxRecDepth 100000 in
set_option maxHeartbeats 2000000 in
theorem zzAlnum_any (s : ByteArray) (i : Nat) (w : World) (hi : i ≤ s.size) (hs : s.size ≤ 4294967296) : Calls Tryz.prog 99 #[.string s, .int .i64 i] w (AtPost w i s.size) := by
  go_enter Tryz.func99, Tryz.ntmps99
  go_wp2_with fail
  go_loopw [1] (fun v wr => ∃ k : Nat, v = .int .i64 k ∧ i ≤ k ∧ k ≤ s.size ∧ wr = w) (fun v _ => s.size - (intOf v).toNat)
  case atStart => exact ⟨i, rfl, Nat.le_refl _, hi, rfl⟩
  case round =>
    obtain ⟨k, rfl, h1, h2, rfl⟩ := hrel
    by_cases hlt : k < s.size
    · cases hd : isDig (s[k]'hlt) <;> have HD := Lib.hid hd <;> clear hd
      · by_cases q1 : 97 ≤ ((s[k]'hlt).toNat : Int)
        · by_cases q2 : ((s[k]'hlt).toNat : Int) ≤ 122
          · go_wp2_with (go_at_call 97; refine (zzDigit_any _ _).mono ?_; rintro e w' ⟨rfl, rfl⟩; rw [HD.out])
            go_roundw
            case rel => exact ⟨k + 1, by go_num, by omega, by omega, trivial⟩
            case measure => simp only [intOf]; omega
          · go_wp2_with (go_at_call 97; refine (zzDigit_any _ _).mono ?_; rintro e w' ⟨rfl, rfl⟩; rw [HD.out])
            go_ret
            exact ⟨k, rfl, by omega, by omega, rfl⟩
        · go_wp2_with (go_at_call 97; refine (zzDigit_any _ _).mono ?_; rintro e w' ⟨rfl, rfl⟩; rw [HD.out])
          go_ret
          exact ⟨k, rfl, by omega, by omega, rfl⟩
      · go_wp2_with (go_at_call 97; refine (zzDigit_any _ _).mono ?_; rintro e w' ⟨rfl, rfl⟩; rw [HD.out])
        go_roundw
        case rel => exact ⟨k + 1, by go_num, by omega, by omega, trivial⟩
        case measure => simp only [intOf]; omega
    · go_wp2_with fail
      go_ret
      exact ⟨k, rfl, by omega, by omega, rfl⟩
set_option maxRecDepth 100000 in
set_option maxHeartbeats 2000000 in
theorem zzMark_any (s : ByteArray) (i : Nat) (w : World) (hi : i ≤ s.size) (hs : s.size ≤ 4294967296) : Calls Tryz.prog 100 #[.string s, .int .i64 i] w (AtPost w i s.size) := by
  by_cases hlt : i < s.size
  · by_cases q45 : (((s[i]'hlt).toNat : Int) == 45) = true
    · go_enter Tryz.func100, Tryz.ntmps100
      go_wp2_with fail
      go_ret
      exact ⟨i + 1, by first | rfl | go_num, by omega, by omega, rfl⟩
    · have q45' : (((s[i]'hlt).toNat : Int) == 45) = false := by simpa using q45
      clear q45
      by_cases q95 : (((s[i]'hlt).toNat : Int) == 95) = true
      · go_enter Tryz.func100, Tryz.ntmps100
        go_wp2_with fail
        go_ret
        exact ⟨i + 1, by first | rfl | go_num, by omega, by omega, rfl⟩
      · have q95' : (((s[i]'hlt).toNat : Int) == 95) = false := by simpa using q95
        clear q95
        by_cases q46 : (((s[i]'hlt).toNat : Int) == 46) = true
        · go_enter Tryz.func100, Tryz.ntmps100
          go_wp2_with fail
          go_ret
          exact ⟨i + 1, by first | rfl | go_num, by omega, by omega, rfl⟩
        · have q46' : (((s[i]'hlt).toNat : Int) == 46) = false := by simpa using q46
          clear q46
          go_enter Tryz.func100, Tryz.ntmps100
          go_wp2_with fail
          go_ret
          exact ⟨i, by first | rfl | go_num, by omega, by omega, rfl⟩
  · go_enter Tryz.func100, Tryz.ntmps100
    go_wp2_with fail
    go_ret
    exact ⟨i, by first | rfl | go_num, by omega, by omega, rfl⟩
/-- zzHas: a word stands at i, or none. -/
def HasPost (w : World) (i m n : Nat) (e : Ending) (w' : World) : Prop := ∃ b : Bool, e = .returned (.bool b) ∧ (b = true → i + m ≤ n) ∧ w = w'
set_option maxHeartbeats 2000000 in
theorem zzHas_any (s p : ByteArray) (i : Nat) (w : World) (hi : i ≤ s.size) (hs : s.size ≤ 4294967296) (hp : p.size ≤ 4294967296) : Calls Tryz.prog 111 #[.string s, .int .i64 i, .string p] w (HasPost w i p.size s.size) := by
  by_cases h : i + p.size ≤ s.size
  · have hd : decide ((p.size : Int) ≤ (s.size : Int) - (i : Int)) = true := decide_eq_true (by omega)
    go_enter Tryz.func111, Tryz.ntmps111
    go_wp2_with fail
    go_ret
    exact ⟨_, rfl, fun _ => h, rfl⟩
  · have hd : decide ((p.size : Int) ≤ (s.size : Int) - (i : Int)) = false := decide_eq_false (by omega)
    go_enter Tryz.func111, Tryz.ntmps111
    go_wp2_with fail
    go_ret
    exact ⟨false, rfl, (fun h => by cases h), rfl⟩
/-- Words in a row of the memory. -/
def WordsAt (w : World) (g : Nat) (l : List ByteArray) : Prop := ∀ j (h : j < l.length), w.cell? ⟨g, j, none⟩ = some (.string l[j])
/-- Digits alone, or nothing. -/
structure Digs (t : ByteArray) (n : Nat) : Prop where
  dig : ∀ c ∈ bs t, isDig c = true
  size : t.size ≤ n
theorem digs_nil (n : Nat) : Digs (mk []) n := ⟨fun c hc => by simp [bs_mk] at hc, by rw [mk_size]; simp⟩
theorem digs_at (s : ByteArray) (j : Nat) (hj : j ≤ s.size) : Digs (s.extract j (j + nd ((bs s).drop j))) s.size ∧ j + nd ((bs s).drop j) ≤ s.size := by
  have h1 := nd_le ((bs s).drop j)
  rw [List.length_drop, bs_len] at h1
  refine ⟨⟨?_, by simp; omega⟩, by omega⟩
  rw [bs_extract, Nat.add_sub_cancel_left]
  exact nd_digs _
/-- Behind the digits at i. -/
def DigPost (w : World) (s : ByteArray) (i : Nat) (e : Ending) (w' : World) : Prop := ∃ j : Nat, e = .returned (.int .i64 j) ∧ i ≤ j ∧ j ≤ s.size ∧ Digs (s.extract i j) s.size ∧ w = w'
theorem zzDigits_to (s : ByteArray) (i : Nat) (w : World) (hi : i ≤ s.size) (hs : s.size ≤ 4294967296) : Calls Tryz.prog 96 #[.string s, .int .i64 i] w (DigPost w s i) := by
  refine (zzDigits_any s i w hi hs).mono ?_
  rintro e w' ⟨rfl, rfl⟩
  obtain ⟨h1, h2⟩ := digs_at s i hi
  exact ⟨_, rfl, Nat.le_add_right _ _, h2, h1, rfl⟩
/-- A word, or nothing; digits, or nothing; a place. -/
def LetPost (w : World) (i n : Nat) (l : List ByteArray) (e : Ending) (w' : World) : Prop :=
  ∃ (wd dg : ByteArray) (k : Nat), e = .returned (.tuple #[.string wd, .string dg, .int .i64 k]) ∧ (wd = mk [] ∨ wd ∈ l) ∧ Digs dg n ∧ i ≤ k ∧ k ≤ n ∧ ∃ m, w' = w.drewN m
set_option maxRecDepth 100000 in
set_option maxHeartbeats 4000000 in
theorem zzLettered_any (s : ByteArray) (i g c : Nat) (l : List ByteArray) (w : World) (hi : i ≤ s.size) (hs : s.size ≤ 1048576) (hW : WordsAt w g l) (hl : l.length ≤ 100) (hz : ∀ x ∈ l, x.size ≤ 100) :
    Calls Tryz.prog 98 #[.string s, .int .i64 i, .slice (some ⟨g, 0, none⟩) l.length c] w (LetPost w i s.size l) := by
  have HW := Lib.hid hW
  have HZ := Lib.hid hz
  clear hW hz
  go_enter Tryz.func98, Tryz.ntmps98
  go_wp2_with (go_at_call 100; refine (zzMark_any s i _ hi (by omega)).mono ?_; rintro e w' ⟨j, rfl, hj1, hj2, rfl⟩)
  go_loopw [6, 17] (fun v p wr => ∃ (k : Nat) (wd : ByteArray), p = .int .i64 k ∧ v = .string wd ∧ k ≤ l.length ∧ j + wd.size ≤ s.size ∧ Hid (wd = mk [] ∨ wd ∈ l) ∧ wr = w) (fun _ p _ => l.length - (intOf p).toNat)
  case atStart => exact ⟨0, mk [], rfl, rfl, Nat.zero_le _, by rw [mk_size]; simpa using hj2, .inl rfl, rfl⟩
  case round =>
    obtain ⟨k, wd, rfl, rfl, hk, hjw, HD, rfl⟩ := hrel
    by_cases hlt : k < l.length
    · have hck := HW.out k hlt
      have hxz : (l[k]'hlt).size ≤ 100 := HZ.out _ (List.getElem_mem _)
      have HM : Hid ((l[k]'hlt) ∈ l) := List.getElem_mem _
      generalize (l[k]'hlt) = x at hck hxz HM
      rcases ise_dec wd with ⟨hse, hsb⟩ | ⟨hse, hsb⟩
      · have hee := eq_empty hsb
        clear hse hsb
        go_wp2_with (go_at_call 111; refine (zzHas_any s x j _ hj2 (by omega) (by omega)).mono ?_; rintro e w' ⟨b, rfl, hb, rfl⟩; have HB := Lib.hid hb; clear hb; cases b)
        · go_roundw
          case rel => exact ⟨k + 1, wd, by go_num, rfl, by omega, hjw, HD, trivial⟩
          case measure => simp only [intOf]; omega
        · have hb2 : j + x.size ≤ s.size := by first | exact HB.out rfl | exact HB.out trivial
          go_roundw
          case rel => exact ⟨k + 1, x, by go_num, rfl, by omega, hb2, .inr HM.out, trivial⟩
          case measure => simp only [intOf]; omega
      · have hee := ne_empty hsb
        clear hse hsb
        go_wp2_with fail
        go_roundw
        case rel => exact ⟨k + 1, wd, by go_num, rfl, by omega, hjw, HD, trivial⟩
        case measure => simp only [intOf]; omega
    · rcases ise_dec wd with ⟨hse, hsb⟩ | ⟨hse, hsb⟩
      · have hee := eq_empty hsb
        clear hse hsb
        go_wp2_with fail
        go_ret3
        exact ⟨mk [], mk [], i, rfl, .inl rfl, digs_nil _, Nat.le_refl _, hi, 0, rfl⟩
      · have hee := ne_empty hsb
        clear hse hsb
        go_wp2_with fail
        refine (zzMark_any s (j + wd.size) _ hjw (by omega)).mono ?_
        rintro e w' ⟨j2, rfl, hj3, hj4, rfl⟩
        go_upto_region 12 with (go_at_call 96; refine (zzDigits_to s j2 _ hj4 (by omega)).mono ?_; rintro e w' ⟨j5, rfl, hle, hen, hdg, rfl⟩; have HDG := Lib.hid hdg; clear hdg)
        have q1 : (0 : Int) ≤ (j2 : Int) := by omega
        have q2 : (j2 : Int) ≤ (j5 : Int) := by omega
        have q3 : (j5 : Int) ≤ (s.size : Int) := by omega
        have hs1 := fun W => slice_ss s j2 j5 hle hen (j2 : Int) (j5 : Int) rfl rfl W
        go_region
        all_goals
          go_wp2_with fail
          go_ret3
          exact ⟨wd, _, j5, rfl, HD.out, HDG.out, by omega, hen, 1, rfl⟩

end Go.Proofs.YtoofphhfealcaaaGreatDoor

namespace Go.Proofs.YtoofphhfealcaaaGreatDoor
open Go.RowKit

/-- A text of n bytes at the most, and the world as it was. -/
def TxtSame (w : World) (n : Nat) (e : Ending) (w' : World) : Prop := ∃ t, e = .returned (.string t) ∧ t.size ≤ n ∧ w = w'
set_option maxHeartbeats 2000000 in
theorem zzPadded_any (s : ByteArray) (w : World) (hs : s.size ≤ 1048576) : Calls Tryz.prog 147 #[.string s] w (TxtSame w (s.size + 8)) := by
  go_enter Tryz.func147, Tryz.ntmps147
  go_wp2_with fail
  go_loopw [0, 3] (fun v i wr => ∃ (k : Nat) (t : ByteArray), i = .int .i64 ((s.size + k : Nat) : Int) ∧ v = .string t ∧ k ≤ 8 ∧ t.size ≤ s.size + k ∧ wr = w) (fun _ i _ => s.size + 8 - (intOf i).toNat)
  case atStart => exact ⟨0, s, rfl, rfl, Nat.zero_le _, Nat.le_refl _, rfl⟩
  case round =>
    obtain ⟨k, t, rfl, rfl, hk, ht, rfl⟩ := hrel
    by_cases hlt : s.size + k < 8
    · have hadd := fun W => run_string_add_sum (P := Tryz.prog) (w := W) (mk [48]) t (by rw [mk_size]; simp; omega)
      go_wp2_with fail
      go_roundw
      case rel => exact ⟨k + 1, _, by go_num, rfl, by omega, by rw [ByteArray.size_append, show (⟨#[48]⟩ : ByteArray).size = 1 from rfl]; omega, trivial⟩
      case measure => simp only [intOf]; omega
    · go_wp2_with fail
      go_ret
      exact ⟨t, rfl, by omega, rfl⟩
/-- All are no longer than n. -/
theorem all_snoc {l : List ByteArray} {n : Nat} {x : ByteArray} (h : ∀ y ∈ l, y.size ≤ n) (hx : x.size ≤ n) : Hid (∀ y ∈ l ++ [x], y.size ≤ n) := by
  intro y hy
  rw [List.mem_append, List.mem_singleton] at hy
  rcases hy with hy | rfl
  · exact h y hy
  · exact hx
/-- A slice of strings of the call's own, n at the most, each of m bytes at the most. -/
def StrsPost (w : World) (n m : Nat) (e : Ending) (w' : World) : Prop := ∃ v l, e = .returned v ∧ Strs w' w.heap.size v l ∧ l.length ≤ n ∧ (∀ y ∈ l, y.size ≤ m) ∧ Below w.heap.size w w'
set_option maxRecDepth 100000 in
set_option maxHeartbeats 8000000 in
theorem zzLegacy_any (s : ByteArray) (w : World) (hs : s.size ≤ 1048576) : Calls Tryz.prog 129 #[.string s] w (StrsPost w s.size s.size) := by
  go_enter Tryz.func129, Tryz.ntmps129
  go_wp2_with fail
  go_loopw [3, 4] (fun v i wr => ∃ (k : Nat) (l : List ByteArray), i = .int .i64 k ∧ k ≤ s.size ∧ l.length ≤ k ∧ Hid (∀ y ∈ l, y.size ≤ s.size) ∧ Hid (Strs wr w.heap.size v l) ∧ Hid (Below w.heap.size w wr)) (fun _ i _ => s.size - (intOf i).toNat)
  case atStart => exact ⟨0, [], rfl, Nat.zero_le _, Nat.le_refl _, (by intro y hy; simp at hy), strs_nil _ _, Below.refl _ _⟩
  case round =>
    obtain ⟨k, l, rfl, hk, hl, HZ, HS, HW⟩ := hrel
    have hww := HW.out.size
    by_cases hlt : k < s.size
    · go_upto_region 5 with (go_at_call 96; refine (zzDigits_to s k _ hk (by omega)).mono ?_; rintro e w' ⟨j0, rfl, hj1, hj2, _, rfl⟩)
      obtain ⟨wo, rfl⟩ : ∃ wo : World, wo = wr := ⟨_, rfl⟩
      by_cases hj0 : j0 = k
      · subst hj0
        go_wp2_with fail
        go_loopw [5] (fun v w2 => ∃ j : Nat, v = .int .i64 j ∧ j0 ≤ j ∧ j ≤ s.size ∧ w2 = wo) (fun v _ => s.size - (intOf v).toNat)
        case atStart => exact ⟨j0, rfl, Nat.le_refl _, hk, rfl⟩
        case round =>
          obtain ⟨j, rfl, h1, h2, rfl⟩ := hrel
          by_cases hjs : j < s.size
          · by_cases c1 : 97 ≤ ((s[j]'hjs).toNat : Int)
            · by_cases c2 : ((s[j]'hjs).toNat : Int) ≤ 122
              · go_wp2_with fail
                go_roundw
                case rel => exact ⟨j + 1, by go_num, by omega, by omega, trivial⟩
                case measure => simp only [intOf]; omega
              · by_cases hjk : j = j0
                · subst hjk
                  have q46 : (((s[j]'hlt).toNat : Int) == 46) = false := by rw [beq_eq_false_iff_ne]; omega
                  have q45 : (((s[j]'hlt).toNat : Int) == 45) = false := by rw [beq_eq_false_iff_ne]; omega
                  go_wp2_with fail
                  go_roundw
                  case rel => exact ⟨j + 1, l, by go_num, by omega, by omega, HZ, HS, HW⟩
                  case measure => simp only [intOf]; omega
                · have hkj : j0 < j := by omega
                  have hne : ((j : Int) == j0) = false := by rw [beq_eq_false_iff_ne]; omega
                  clear hjk
                  go_wp2_with (at_builtin; (refine app_str (w0 := w) w.heap.size rfl _ _ rfl _ l (s.extract (j0) (j)) HS.out rfl rfl HW.out hww (by omega) ?_); intro v1 w1 hs1 hb1 _; have HS1 := Lib.hid hs1; have HW1 := Lib.hid hb1; clear hs1 hb1)
                  go_roundw
                  case rel => exact ⟨j, _, by first | rfl | go_num, by omega, by simp; omega, all_snoc HZ.out (by simp; omega), HS1, HW1⟩
                  case measure => simp only [intOf]; omega
            · by_cases hjk : j = j0
              · subst hjk
                by_cases q46 : (((s[j]'hlt).toNat : Int) == 46) = true
                · go_wp2_with (at_builtin; (refine app_str (w0 := w) w.heap.size rfl _ _ rfl _ l (s.extract (j) (j + 1)) HS.out rfl rfl HW.out hww (by omega) ?_); intro v1 w1 hs1 hb1 _; have HS1 := Lib.hid hs1; have HW1 := Lib.hid hb1; clear hs1 hb1)
                  go_roundw
                  case rel => exact ⟨j + 1, _, by first | rfl | go_num, by omega, by simp; omega, all_snoc HZ.out (by simp; omega), HS1, HW1⟩
                  case measure => simp only [intOf]; omega
                · have q46' : (((s[j]'hlt).toNat : Int) == 46) = false := by simpa using q46
                  clear q46
                  by_cases q45 : (((s[j]'hlt).toNat : Int) == 45) = true
                  · go_wp2_with (at_builtin; (refine app_str (w0 := w) w.heap.size rfl _ _ rfl _ l (s.extract (j) (j + 1)) HS.out rfl rfl HW.out hww (by omega) ?_); intro v1 w1 hs1 hb1 _; have HS1 := Lib.hid hs1; have HW1 := Lib.hid hb1; clear hs1 hb1)
                    go_roundw
                    case rel => exact ⟨j + 1, _, by first | rfl | go_num, by omega, by simp; omega, all_snoc HZ.out (by simp; omega), HS1, HW1⟩
                    case measure => simp only [intOf]; omega
                  · have q45' : (((s[j]'hlt).toNat : Int) == 45) = false := by simpa using q45
                    clear q45
                    go_wp2_with fail
                    go_roundw
                    case rel => exact ⟨j + 1, l, by go_num, by omega, by omega, HZ, HS, HW⟩
                    case measure => simp only [intOf]; omega
              · have hkj : j0 < j := by omega
                have hne : ((j : Int) == j0) = false := by rw [beq_eq_false_iff_ne]; omega
                clear hjk
                go_wp2_with (at_builtin; (refine app_str (w0 := w) w.heap.size rfl _ _ rfl _ l (s.extract (j0) (j)) HS.out rfl rfl HW.out hww (by omega) ?_); intro v1 w1 hs1 hb1 _; have HS1 := Lib.hid hs1; have HW1 := Lib.hid hb1; clear hs1 hb1)
                go_roundw
                case rel => exact ⟨j, _, by first | rfl | go_num, by omega, by simp; omega, all_snoc HZ.out (by simp; omega), HS1, HW1⟩
                case measure => simp only [intOf]; omega
          · have hkj : j0 < j := by omega
            have hne : ((j : Int) == j0) = false := by rw [beq_eq_false_iff_ne]; omega
            go_wp2_with (at_builtin; (refine app_str (w0 := w) w.heap.size rfl _ _ rfl _ l (s.extract (j0) (j)) HS.out rfl rfl HW.out hww (by omega) ?_); intro v1 w1 hs1 hb1 _; have HS1 := Lib.hid hs1; have HW1 := Lib.hid hb1; clear hs1 hb1)
            go_roundw
            case rel => exact ⟨j, _, by first | rfl | go_num, by omega, by simp; omega, all_snoc HZ.out (by simp; omega), HS1, HW1⟩
            case measure => simp only [intOf]; omega
      · have hkj : k < j0 := by omega
        have hne : ((j0 : Int) == k) = false := by rw [beq_eq_false_iff_ne]; omega
        clear hj0
        go_wp2_with (at_builtin; (refine app_str (w0 := w) w.heap.size rfl _ _ rfl _ l (s.extract (k) (j0)) HS.out rfl rfl HW.out hww (by omega) ?_); intro v1 w1 hs1 hb1 _; have HS1 := Lib.hid hs1; have HW1 := Lib.hid hb1; clear hs1 hb1)
        go_roundw
        case rel => exact ⟨j0, _, by first | rfl | go_num, by omega, by simp; omega, all_snoc HZ.out (by simp; omega), HS1, HW1⟩
        case measure => simp only [intOf]; omega
    · go_wp2_with fail
      go_ret
      exact ⟨_, l, rfl, HS.out, by omega, HZ.out, HW.out⟩
theorem isASCIIDigit_no (c : Int) (w : World) (h : digR c = false) : Calls Tryz.prog 67 #[.int .i32 c] w fun e w' => e = .returned (.bool false) ∧ w = w' := by
  refine (isASCIIDigit_any c w).mono ?_
  rintro e w' ⟨rfl, rfl⟩
  exact ⟨by rw [h], rfl⟩
theorem small (s : ByteArray) {n m : Nat} (h : n = m) (hm : m ≤ 16 := by decide) : n ≤ s.size + 16 := by omega
set_option maxRecDepth 100000 in
set_option maxHeartbeats 4000000 in
theorem normalize_any (s : ByteArray) (w : World) (h0 : 0 < s.size) (hs : s.size ≤ 1048576) : Calls Tryz.prog 130 #[.string s] w (TxtSame w (s.size + 16)) := by
  by_cases qpre : (s.toList == [112, 114, 101]) = true
  · go_enter Tryz.func130, Tryz.ntmps130
    go_wp2_with (go_at_call 67; go_loud (refine (isASCIIDigit_no _ _ ?_).mono ?_); (first | rfl | decide | kernel_rfl); rintro e w' ⟨rfl, rfl⟩)
    go_ret
    exact ⟨_, rfl, small s (by rfl), rfl⟩
  · have qpre' : (s.toList == [112, 114, 101]) = false := by simpa using qpre
    clear qpre
    by_cases qpreview : (s.toList == [112, 114, 101, 118, 105, 101, 119]) = true
    · go_enter Tryz.func130, Tryz.ntmps130
      go_wp2_with (go_at_call 67; go_loud (refine (isASCIIDigit_no _ _ ?_).mono ?_); (first | rfl | decide | kernel_rfl); rintro e w' ⟨rfl, rfl⟩)
      go_ret
      exact ⟨_, rfl, small s (by rfl), rfl⟩
    · have qpreview' : (s.toList == [112, 114, 101, 118, 105, 101, 119]) = false := by simpa using qpreview
      clear qpreview
      by_cases qdash : (s.toList == [45]) = true
      · go_enter Tryz.func130, Tryz.ntmps130
        go_wp2_with (go_at_call 67; go_loud (refine (isASCIIDigit_no _ _ ?_).mono ?_); (first | rfl | decide | kernel_rfl); rintro e w' ⟨rfl, rfl⟩)
        go_ret
        exact ⟨_, rfl, small s (by rfl), rfl⟩
      · have qdash' : (s.toList == [45]) = false := by simpa using qdash
        clear qdash
        by_cases qrc : (s.toList == [114, 99]) = true
        · go_enter Tryz.func130, Tryz.ntmps130
          go_wp2_with (go_at_call 67; go_loud (refine (isASCIIDigit_no _ _ ?_).mono ?_); (first | rfl | decide | kernel_rfl); rintro e w' ⟨rfl, rfl⟩)
          go_ret
          exact ⟨_, rfl, small s (by rfl), rfl⟩
        · have qrc' : (s.toList == [114, 99]) = false := by simpa using qrc
          clear qrc
          by_cases qdev : (s.toList == [100, 101, 118]) = true
          · go_enter Tryz.func130, Tryz.ntmps130
            go_wp2_with (go_at_call 67; go_loud (refine (isASCIIDigit_no _ _ ?_).mono ?_); (first | rfl | decide | kernel_rfl); rintro e w' ⟨rfl, rfl⟩)
            go_ret
            exact ⟨_, rfl, small s (by rfl), rfl⟩
          · have qdev' : (s.toList == [100, 101, 118]) = false := by simpa using qdev
            clear qdev
            cases hd : digR (wrap32 ((s[0]'h0).toNat : Int)) <;> have HD := Lib.hid hd <;> clear hd
            · go_enter Tryz.func130, Tryz.ntmps130
              go_wp2_with (go_at_call 67; refine (isASCIIDigit_any _ _).mono ?_; rintro e w' ⟨rfl, rfl⟩; rw [HD.out])
              go_ret
              exact ⟨_, rfl, by rw [ByteArray.size_append, show (⟨#[42]⟩ : ByteArray).size = 1 from rfl]; omega, rfl⟩
            · go_enter Tryz.func130, Tryz.ntmps130
              go_wp2_with (first
                | (go_at_call 67; refine (isASCIIDigit_any _ _).mono ?_; rintro e w' ⟨rfl, rfl⟩; rw [HD.out])
                | (go_at_call 147; refine (zzPadded_any s _ hs).mono ?_; rintro e w' ⟨t, rfl, ht, rfl⟩))
              go_ret
              exact ⟨t, rfl, by omega, rfl⟩
/-- Neither more nor less than a number. -/
def IntPost (w : World) (e : Ending) (w' : World) : Prop := ∃ n : Int, e = .returned (.int .i64 n) ∧ w = w'
theorem compare_any (s t : ByteArray) (w : World) : Calls Tryz.prog 131 #[.string s, .string t] w (IntPost w) := by
  refine (Tryz.strings_Compare s t w).mono ?_
  rintro e w' ⟨rfl, rfl⟩
  exact ⟨_, rfl, rfl⟩
set_option maxRecDepth 100000 in
set_option maxHeartbeats 8000000 in
theorem verParts_any (s : ByteArray) (w : World) (hs : s.size ≤ 1048000) : Calls Tryz.prog 101 #[.string s] w (SlcPost w) := by
  go_enter Tryz.func101, Tryz.ntmps101
  go_wp2_with fail
  refine (zzLegacy_any s _ (by omega)).mono ?_
  rintro e w1 ⟨v, l0, rfl, hS, hn0, hz0, hB⟩
  have HS1 := Lib.hid hS
  have HB1 := Lib.hid hB
  have HZ0 := Lib.hid hz0
  have hw1 := hB.size
  clear hS hB hz0
  go_wp2_with (at_builtin; (refine app_str (w0 := w) w.heap.size rfl _ _ rfl _ l0 ⟨#[102, 105, 110, 97, 108]⟩ HS1.out rfl rfl HB1.out hw1 (by omega) ?_); intro v2 w2 hs1 hb1 _; have hz1 := all_snoc (x := ⟨#[102, 105, 110, 97, 108]⟩) (fun y hy => Nat.le_trans (HZ0.out y hy) (Nat.le_add_right s.size 5)) (Nat.le_add_left 5 s.size); have hn1 : (l0 ++ [(⟨#[102, 105, 110, 97, 108]⟩ : ByteArray)]).length ≤ s.size + 1 := (by rw [List.length_append]; simp; omega); generalize (l0 ++ [(⟨#[102, 105, 110, 97, 108]⟩ : ByteArray)]) = ls at hs1 hz1 hn1; obtain ⟨A, cp, rfl⟩ := strs_len hs1; generalize hn : ls.length = n at *; have HN := Lib.hid hn; clear hn; have HS2 := Lib.hid hs1; have HB2 := Lib.hid hb1; clear hs1 hb1)
  have hw2 := HB2.out.size
  obtain ⟨w3, rfl⟩ : ∃ w3 : World, w3 = w2 := ⟨_, rfl⟩
  go_loopw [2, 13] (fun v i wr => ∃ (k : Nat) (l : List ByteArray), i = .int .i64 k ∧ k ≤ n ∧ l.length ≤ k ∧ Hid (Strs wr w3.heap.size v l) ∧ Hid (Below w3.heap.size w3 wr)) (fun _ i _ => n - (intOf i).toNat)
  case atStart => exact ⟨0, [], rfl, Nat.zero_le _, Nat.le_refl _, strs_nil _ _, Below.refl _ _⟩
  case round =>
    obtain ⟨k, l, rfl, hk, hl, HS, HW⟩ := hrel
    have hww := HW.out.size
    by_cases hlt : k < n
    · obtain ⟨g, cp2, hA, hg1, hg2, hcs⟩ := strs_cells HS2.out (by have := HN.out; omega)
      injection hA with hA1 hA2 hA3
      subst hA1
      have hkl2 : k < ls.length := by have := HN.out; omega
      have hck : wr.cell? ⟨g, k, none⟩ = some (.string (ls[k]'hkl2)) := by
        rw [← hcs k hkl2]
        exact HW.out.cell (p := ⟨g, k, none⟩) hg2
      have hxz : (ls[k]'hkl2).size ≤ s.size + 5 := hz1.out _ (List.getElem_mem _)
      generalize (ls[k]'hkl2) = x at hck hxz
      clear hcs hA2 hA3
      rcases ise_dec x with ⟨hse, hsb⟩ | ⟨hse, hsb⟩
      · have hee := eq_empty hsb
        clear hse hsb
        go_wp2_with fail
        go_roundw
        case rel => exact ⟨k + 1, l, by go_num, by omega, by omega, HS, HW⟩
        case measure => simp only [intOf]; omega
      · have hee := ne_empty hsb
        have hx0 : 0 < x.size := by
          rcases Nat.eq_zero_or_pos x.size with h | h
          · exact absurd (List.eq_nil_of_length_eq_zero (by rw [bs_len]; exact h)) hsb
          · exact h
        clear hse hsb
        by_cases hdot : (x.toList == [46]) = true
        · go_wp2_with fail
          go_roundw
          case rel => exact ⟨k + 1, l, by go_num, by omega, by omega, HS, HW⟩
          case measure => simp only [intOf]; omega
        · have hdot' : (x.toList == [46]) = false := by simpa using hdot
          clear hdot
          go_upto_region 8 with (go_at_call 130; refine (normalize_any x _ hx0 (by omega)).mono ?_; rintro e w' ⟨t, rfl, ht, rfl⟩)
          go_wp2_with (first
            | (go_at_call 112; refine (hasV _ _ _).mono ?_; rintro e w' ⟨b, rfl, rfl⟩; cases b)
            | (at_builtin; (refine app_str (w0 := w3) w3.heap.size rfl _ _ rfl _ l t HS.out rfl rfl HW.out hww (by omega) ?_); intro v1 w1 hs1 hb1 _; have HS1 := Lib.hid hs1; have HW1 := Lib.hid hb1; clear hs1 hb1)
            | (go_at_call 131; refine (compare_any _ _ _).mono ?_; rintro e w' ⟨m, rfl, rfl⟩; by_cases hm : m < 0))
          · go_roundw
            case rel => exact ⟨k + 1, _, by go_num, by omega, by simp; try omega, HS1, HW1⟩
            case measure => simp only [intOf]; omega
          · obtain ⟨wo, rfl⟩ : ∃ wo : World, wo = wr := ⟨_, rfl⟩
            go_loopw [2] (fun v w2 => ∃ (l2 : List ByteArray), l2.length ≤ k ∧ Hid (Strs wo w3.heap.size v l2) ∧ w2 = wo) (fun v _ => match v with | .slice _ n _ => n | _ => 0)
            case atStart => exact ⟨_, by omega, HS, rfl⟩
            case round =>
              obtain ⟨l2, hl2, HS, rfl⟩ := hrel
              obtain ⟨A2, c2, rfl⟩ := strs_len HS.out
              by_cases h0 : 0 < l2.length
              · obtain ⟨g2, cp2, hA, hg1, hg2, hcs⟩ := strs_cells HS.out h0
                injection hA with hA1 hA2 hA3
                subst hA1
                have hck := hcs (l2.length - 1) (by omega)
                generalize (l2[l2.length - 1]'(by omega)) = y at hck
                clear hcs hA2 hA3
                have hp1 : (1 : Int) ≤ (l2.length : Int) := by omega
                have hcap := strs_cap HS.out
                by_cases hx : (y.toList == [42, 102, 105, 110, 97, 108, 45]) = true
                · have HS2 := Lib.hid (strs_take HS.out (l2.length - 1) (by omega))
                  go_wp2_with fail
                  go_roundw
                  case rel => exact ⟨_, by rw [List.length_take]; omega, HS2, trivial⟩
                  case measure => show l2.length - 1 < l2.length; omega
                · have hx' : (y.toList == [42, 102, 105, 110, 97, 108, 45]) = false := by simpa using hx
                  clear hx
                  go_wp2_with fail
                  obtain ⟨wo, rfl⟩ : ∃ wo : World, wo = wr := ⟨_, rfl⟩
                  go_loopw [2] (fun v w2 => ∃ (l2 : List ByteArray), l2.length ≤ k ∧ Hid (Strs wo w3.heap.size v l2) ∧ w2 = wo) (fun v _ => match v with | .slice _ n _ => n | _ => 0)
                  case atStart => exact ⟨_, by omega, HS, rfl⟩
                  case round =>
                    obtain ⟨l2, hl2, HS, rfl⟩ := hrel
                    obtain ⟨A2, c2, rfl⟩ := strs_len HS.out
                    by_cases h0 : 0 < l2.length
                    · obtain ⟨g2, cp2, hA, hg1, hg2, hcs⟩ := strs_cells HS.out h0
                      injection hA with hA1 hA2 hA3
                      subst hA1
                      have hck := hcs (l2.length - 1) (by omega)
                      generalize (l2[l2.length - 1]'(by omega)) = y at hck
                      clear hcs hA2 hA3
                      have hp1 : (1 : Int) ≤ (l2.length : Int) := by omega
                      have hcap := strs_cap HS.out
                      by_cases hx : (y.toList == [48, 48, 48, 48, 48, 48, 48, 48]) = true
                      · have HS2 := Lib.hid (strs_take HS.out (l2.length - 1) (by omega))
                        go_wp2_with fail
                        go_roundw
                        case rel => exact ⟨_, by rw [List.length_take]; omega, HS2, trivial⟩
                        case measure => show l2.length - 1 < l2.length; omega
                      · have hx' : (y.toList == [48, 48, 48, 48, 48, 48, 48, 48]) = false := by simpa using hx
                        clear hx
                        go_wp2_with (at_builtin; (refine app_str (w0 := w3) w3.heap.size rfl _ _ rfl _ l2 t HS.out rfl rfl HW.out hww (by omega) ?_); intro v1 w1 hs1 hb1 _; have HS1 := Lib.hid hs1; have HW1 := Lib.hid hb1; clear hs1 hb1)
                        go_roundw
                        case rel => exact ⟨k + 1, _, by go_num, by omega, by simp; try omega, HS1, HW1⟩
                        case measure => simp only [intOf]; omega
                    · obtain rfl : l2 = [] := List.eq_nil_of_length_eq_zero (by omega)
                      clear h0
                      go_wp2_with (at_builtin; (refine app_str (w0 := w3) w3.heap.size rfl _ _ rfl _ [] t HS.out rfl rfl HW.out hww (by omega) ?_); intro v1 w1 hs1 hb1 _; have HS1 := Lib.hid hs1; have HW1 := Lib.hid hb1; clear hs1 hb1)
                      go_roundw
                      case rel => exact ⟨k + 1, _, by go_num, by omega, by simp; try omega, HS1, HW1⟩
                      case measure => simp only [intOf]; omega
              · obtain rfl : l2 = [] := List.eq_nil_of_length_eq_zero (by omega)
                clear h0
                go_wp2_with fail
                obtain ⟨wo, rfl⟩ : ∃ wo : World, wo = wr := ⟨_, rfl⟩
                go_loopw [2] (fun v w2 => ∃ (l2 : List ByteArray), l2.length ≤ k ∧ Hid (Strs wo w3.heap.size v l2) ∧ w2 = wo) (fun v _ => match v with | .slice _ n _ => n | _ => 0)
                case atStart => exact ⟨_, by omega, HS, rfl⟩
                case round =>
                  obtain ⟨l2, hl2, HS, rfl⟩ := hrel
                  obtain ⟨A2, c2, rfl⟩ := strs_len HS.out
                  by_cases h0 : 0 < l2.length
                  · obtain ⟨g2, cp2, hA, hg1, hg2, hcs⟩ := strs_cells HS.out h0
                    injection hA with hA1 hA2 hA3
                    subst hA1
                    have hck := hcs (l2.length - 1) (by omega)
                    generalize (l2[l2.length - 1]'(by omega)) = y at hck
                    clear hcs hA2 hA3
                    have hp1 : (1 : Int) ≤ (l2.length : Int) := by omega
                    have hcap := strs_cap HS.out
                    by_cases hx : (y.toList == [48, 48, 48, 48, 48, 48, 48, 48]) = true
                    · have HS2 := Lib.hid (strs_take HS.out (l2.length - 1) (by omega))
                      go_wp2_with fail
                      go_roundw
                      case rel => exact ⟨_, by rw [List.length_take]; omega, HS2, trivial⟩
                      case measure => show l2.length - 1 < l2.length; omega
                    · have hx' : (y.toList == [48, 48, 48, 48, 48, 48, 48, 48]) = false := by simpa using hx
                      clear hx
                      go_wp2_with (at_builtin; (refine app_str (w0 := w3) w3.heap.size rfl _ _ rfl _ l2 t HS.out rfl rfl HW.out hww (by omega) ?_); intro v1 w1 hs1 hb1 _; have HS1 := Lib.hid hs1; have HW1 := Lib.hid hb1; clear hs1 hb1)
                      go_roundw
                      case rel => exact ⟨k + 1, _, by go_num, by omega, by simp; try omega, HS1, HW1⟩
                      case measure => simp only [intOf]; omega
                  · obtain rfl : l2 = [] := List.eq_nil_of_length_eq_zero (by omega)
                    clear h0
                    go_wp2_with (at_builtin; (refine app_str (w0 := w3) w3.heap.size rfl _ _ rfl _ [] t HS.out rfl rfl HW.out hww (by omega) ?_); intro v1 w1 hs1 hb1 _; have HS1 := Lib.hid hs1; have HW1 := Lib.hid hb1; clear hs1 hb1)
                    go_roundw
                    case rel => exact ⟨k + 1, _, by go_num, by omega, by simp; try omega, HS1, HW1⟩
                    case measure => simp only [intOf]; omega
          · obtain ⟨wo, rfl⟩ : ∃ wo : World, wo = wr := ⟨_, rfl⟩
            go_loopw [2] (fun v w2 => ∃ (l2 : List ByteArray), l2.length ≤ k ∧ Hid (Strs wo w3.heap.size v l2) ∧ w2 = wo) (fun v _ => match v with | .slice _ n _ => n | _ => 0)
            case atStart => exact ⟨_, by omega, HS, rfl⟩
            case round =>
              obtain ⟨l2, hl2, HS, rfl⟩ := hrel
              obtain ⟨A2, c2, rfl⟩ := strs_len HS.out
              by_cases h0 : 0 < l2.length
              · obtain ⟨g2, cp2, hA, hg1, hg2, hcs⟩ := strs_cells HS.out h0
                injection hA with hA1 hA2 hA3
                subst hA1
                have hck := hcs (l2.length - 1) (by omega)
                generalize (l2[l2.length - 1]'(by omega)) = y at hck
                clear hcs hA2 hA3
                have hp1 : (1 : Int) ≤ (l2.length : Int) := by omega
                have hcap := strs_cap HS.out
                by_cases hx : (y.toList == [48, 48, 48, 48, 48, 48, 48, 48]) = true
                · have HS2 := Lib.hid (strs_take HS.out (l2.length - 1) (by omega))
                  go_wp2_with fail
                  go_roundw
                  case rel => exact ⟨_, by rw [List.length_take]; omega, HS2, trivial⟩
                  case measure => show l2.length - 1 < l2.length; omega
                · have hx' : (y.toList == [48, 48, 48, 48, 48, 48, 48, 48]) = false := by simpa using hx
                  clear hx
                  go_wp2_with (at_builtin; (refine app_str (w0 := w3) w3.heap.size rfl _ _ rfl _ l2 t HS.out rfl rfl HW.out hww (by omega) ?_); intro v1 w1 hs1 hb1 _; have HS1 := Lib.hid hs1; have HW1 := Lib.hid hb1; clear hs1 hb1)
                  go_roundw
                  case rel => exact ⟨k + 1, _, by go_num, by omega, by simp; try omega, HS1, HW1⟩
                  case measure => simp only [intOf]; omega
              · obtain rfl : l2 = [] := List.eq_nil_of_length_eq_zero (by omega)
                clear h0
                go_wp2_with (at_builtin; (refine app_str (w0 := w3) w3.heap.size rfl _ _ rfl _ [] t HS.out rfl rfl HW.out hww (by omega) ?_); intro v1 w1 hs1 hb1 _; have HS1 := Lib.hid hs1; have HW1 := Lib.hid hb1; clear hs1 hb1)
                go_roundw
                case rel => exact ⟨k + 1, _, by go_num, by omega, by simp; try omega, HS1, HW1⟩
                case measure => simp only [intOf]; omega
    · obtain ⟨A1, c1, rfl⟩ := strs_len HS.out
      go_wp2_with fail
      go_ret
      exact ⟨_, _, _, rfl, HB2.out.trans (HW.out.mono hw2)⟩
theorem there_of {W : World} {b : Nat} {cs : Array Value} {T : TypeId} (h : W.heap[b]? = some (.cells cs T)) {n : Nat} (hn : n ≤ cs.size) : W.there b 0 n := by
  intro j hj
  have hj2 : j < cs.size := by omega
  refine ⟨?_, ?_⟩ <;> simp [World.cell?, World.frozen?, h, hj2]
/-- The zero PyPIVersion's cells. -/
abbrev pyp0 : Array Value := #[.pointer none, .slice none 0 0, .string (mk []), .pointer none, .string (mk []), .pointer none, .string (mk []), .pointer none, .slice none 0 0, .slice none 0 0]
theorem inf67 : (Tryz.prog.info? 67).map (·.size) = some 10 := by kernel_rfl
theorem und67 : ∃ d, Tryz.prog.underlying 67 = some d ∧ d.isRow = true := row_of (by kernel_rfl)
theorem pyp_ones (p0 : Option Addr) (p1 : Option Addr) (n1 c1 : Nat) (s2 : ByteArray) (p3 : Option Addr) (s4 : ByteArray) (p5 : Option Addr) (s6 : ByteArray) (p7 : Option Addr) (p8 : Option Addr) (n8 c8 : Nat) (p9 : Option Addr) (n9 c9 : Nat) :
    (#[Value.pointer p0, .slice p1 n1 c1, .string s2, .pointer p3, .string s4, .pointer p5, .string s6, .pointer p7, .slice p8 n8 c8, .slice p9 n9 c9]).all (·.oneCell') = true := by
  simp [Value.oneCell']
set_option maxRecDepth 100000 in
set_option maxHeartbeats 4000000 in
theorem legacy_any (s : ByteArray) (w : World) (hs : s.size ≤ 1048000) : Calls Tryz.prog 57 #[.string s] w (AggPost w) := by
  go_enter Tryz.func57, Tryz.ntmps57
  go_wp2_with fail
  refine (verParts_any s _ hs).mono ?_
  rintro e w1 ⟨A, n, c, rfl, b1⟩
  have B1 := Lib.hid b1
  have hs1 := b1.size
  simp at hs1
  clear b1
  have HT : Hid (∀ w2, Below w1.heap.size w1 w2 → w2.heap[w.heap.size]? = some (.cells pyp0 67)) := fun w2 hb => by
    rw [hb.block _ (by omega)]
    exact kept_blk (w := w) (o := .cells pyp0 67) (by have := B1.out; rw [World.size_alloc] at this; exact this)
  go_wp2_with (first
    | (go_at_call 49; refine (newInt_neg _).mono ?_; rintro e w2 ⟨rfl, b2⟩; have HB2 := Lib.hid b2; have hs2 := b2.size; clear b2)
    | (refine wpList_store_mid rfl 67 _ _ rfl w.heap.size 0 _ rfl rfl (there_of (n := 10) (HT.out _ HB2.out) (Nat.le_refl 10)) inf67 (pyp_ones _ _ _ _ _ _ _ _ _ _ _ _ _ _ _ _) ?_))
  have HZ := Lib.hid (World.rangeAt_setCells_same w2 w.heap.size 0 [.pointer (some ⟨w1.heap.size + 1, 0, none⟩), .slice none 0 0, .string (mk []), .pointer none, .string (mk []), .pointer none, .string (mk []), .pointer none, .slice none 0 0, .slice A n c] (there_of (n := 10) (HT.out _ HB2.out) (Nat.le_refl 10)))
  have HB7 : Hid (Below w.heap.size w (w2.setCells w.heap.size 0 [.pointer (some ⟨w1.heap.size + 1, 0, none⟩), .slice none 0 0, .string (mk []), .pointer none, .string (mk []), .pointer none, .string (mk []), .pointer none, .slice none 0 0, .slice A n c])) :=
    below_setCells (Nat.le_refl _) _ _ (((Below.refl w.heap.size w).alloc (Nat.le_refl _) (.cells pyp0 67)).trans ((B1.out.mono (by simp)).trans (HB2.out.mono (by omega))))
  obtain ⟨d, hd1, hd2⟩ := und67
  refine bodyPost_ret (res_cell1 Tryz.results57 rfl HZ.out hd1 hd2 inf67) rfl ?_
  exact ⟨⟨_, rfl⟩, HB7.out⟩

end Go.Proofs.YtoofphhfealcaaaGreatDoor

namespace Go.Proofs.YtoofphhfealcaaaGreatDoor
open Go.RowKit

/-- All are of ASCII, and no longer than n. -/
theorem allAsc_snoc {l : List ByteArray} {n : Nat} {x : ByteArray} (h : ∀ y ∈ l, AscN y n) (hx : AscN x n) : Hid (∀ y ∈ l ++ [x], AscN y n) := by
  intro y hy
  rw [List.mem_append, List.mem_singleton] at hy
  rcases hy with hy | rfl
  · exact h y hy
  · exact hx
theorem ascN_ext {s : ByteArray} (h : Asc (bs s)) (a b : Nat) (hb : b ≤ s.size) : AscN (s.extract a b) s.size := ⟨asc_ext h a b, by simp; omega⟩
/-- A slice of strings of ASCII of the call's own. -/
def AscsPost (w : World) (n m : Nat) (e : Ending) (w' : World) : Prop := ∃ v l, e = .returned v ∧ Strs w' w.heap.size v l ∧ l.length ≤ n ∧ (∀ y ∈ l, AscN y m) ∧ Below w.heap.size w w'
set_option maxRecDepth 100000 in
set_option maxHeartbeats 4000000 in
theorem localSplit_any (s : ByteArray) (w : World) (hs : s.size ≤ 1048576) (ha : Asc (bs s)) : Calls Tryz.prog 102 #[.string s] w (AscsPost w (s.size + 1) s.size) := by
  have HA := Lib.hid ha
  clear ha
  go_enter Tryz.func102, Tryz.ntmps102
  go_wp2_with fail
  go_loopw [3, 4, 5] (fun v f i wr => ∃ (k j : Nat) (l : List ByteArray), i = .int .i64 k ∧ f = .int .i64 j ∧ j ≤ k ∧ k ≤ s.size ∧ l.length ≤ k ∧ Hid (∀ y ∈ l, AscN y s.size) ∧ Hid (Strs wr w.heap.size v l) ∧ Hid (Below w.heap.size w wr)) (fun _ _ i _ => s.size - (intOf i).toNat)
  case atStart => exact ⟨0, 0, [], rfl, rfl, Nat.le_refl _, Nat.zero_le _, Nat.le_refl _, (by intro y hy; simp at hy), strs_nil _ _, Below.refl _ _⟩
  case round =>
    obtain ⟨k, j, l, rfl, rfl, hj, hk, hl, HZ, HS, HW⟩ := hrel
    have hww := HW.out.size
    by_cases hlt : k < s.size
    · by_cases q46 : (((s[k]'hlt).toNat : Int) == 46) = true
      · go_wp2_with (at_builtin; (refine app_str (w0 := w) w.heap.size rfl _ _ rfl _ l (s.extract j k) HS.out rfl rfl HW.out hww (by omega) ?_); intro v1 w1 hs1 hb1 _; have HS1 := Lib.hid hs1; have HW1 := Lib.hid hb1; clear hs1 hb1)
        go_roundw
        case rel => exact ⟨k + 1, k + 1, _, by go_num, by go_num, by omega, by omega, by simp; omega, allAsc_snoc HZ.out (ascN_ext HA.out _ _ (by omega)), HS1, HW1⟩
        case measure => simp only [intOf]; omega
      · have q46' : (((s[k]'hlt).toNat : Int) == 46) = false := by simpa using q46
        clear q46
        by_cases q95 : (((s[k]'hlt).toNat : Int) == 95) = true
        · go_wp2_with (at_builtin; (refine app_str (w0 := w) w.heap.size rfl _ _ rfl _ l (s.extract j k) HS.out rfl rfl HW.out hww (by omega) ?_); intro v1 w1 hs1 hb1 _; have HS1 := Lib.hid hs1; have HW1 := Lib.hid hb1; clear hs1 hb1)
          go_roundw
          case rel => exact ⟨k + 1, k + 1, _, by go_num, by go_num, by omega, by omega, by simp; omega, allAsc_snoc HZ.out (ascN_ext HA.out _ _ (by omega)), HS1, HW1⟩
          case measure => simp only [intOf]; omega
        · have q95' : (((s[k]'hlt).toNat : Int) == 95) = false := by simpa using q95
          clear q95
          by_cases q45 : (((s[k]'hlt).toNat : Int) == 45) = true
          · go_wp2_with (at_builtin; (refine app_str (w0 := w) w.heap.size rfl _ _ rfl _ l (s.extract j k) HS.out rfl rfl HW.out hww (by omega) ?_); intro v1 w1 hs1 hb1 _; have HS1 := Lib.hid hs1; have HW1 := Lib.hid hb1; clear hs1 hb1)
            go_roundw
            case rel => exact ⟨k + 1, k + 1, _, by go_num, by go_num, by omega, by omega, by simp; omega, allAsc_snoc HZ.out (ascN_ext HA.out _ _ (by omega)), HS1, HW1⟩
            case measure => simp only [intOf]; omega
          · have q45' : (((s[k]'hlt).toNat : Int) == 45) = false := by simpa using q45
            clear q45
            go_wp2_with fail
            go_roundw
            case rel => exact ⟨k + 1, j, l, by go_num, rfl, by omega, by omega, by omega, HZ, HS, HW⟩
            case measure => simp only [intOf]; omega
    · go_wp2_with (at_builtin; (refine app_str (w0 := w) w.heap.size rfl _ _ rfl _ l (s.extract j s.size) HS.out rfl rfl HW.out hww (by omega) ?_); intro v1 w1 hs1 hb1 _; have HS1 := Lib.hid hs1; have HW1 := Lib.hid hb1; clear hs1 hb1)
      go_ret
      exact ⟨_, _, rfl, HS1.out, by simp; omega, (allAsc_snoc HZ.out (ascN_ext HA.out _ _ (Nat.le_refl _))).out, HW1.out⟩
theorem lower_asc (b : UInt8) (h : b.toNat < 128) : (Lib.lowerB b).toNat < 128 := by
  have key : ∀ n : Fin 128, (Lib.lowerB (UInt8.ofNat n.1)).toNat < 128 := by decide
  have := key ⟨b.toNat, h⟩
  simpa using this
theorem toLower_any (s : ByteArray) (w : World) (hs : s.size ≤ 1048576) (ha : Asc (bs s)) : Calls Tryz.prog 55 #[.string s] w (StrPost w s.size) := by
  refine (Tryz.strings_ToLower_ascii s w (by omega) (fun j b hb => ha b (List.mem_of_getElem? hb))).mono ?_
  rintro e w' ⟨rfl, hB⟩
  refine ⟨_, rfl, ⟨?_, ?_⟩, hB⟩
  · intro c hc
    have hc2 : c ∈ (bs s).map Lib.lowerB := hc
    rw [List.mem_map] at hc2
    obtain ⟨b, hb, rfl⟩ := hc2
    exact lower_asc b (ha b hb)
  · have : (mk ((bs s).map Lib.lowerB)).size = s.size := by rw [mk_size, List.length_map, bs_len]
    exact Nat.le_of_eq this
set_option maxRecDepth 100000 in
set_option maxHeartbeats 4000000 in
theorem parseLocal_any (s : ByteArray) (w : World) (hs : s.size ≤ 1048576) (ha : Asc (bs s)) : Calls Tryz.prog 59 #[.string s] w (SlcPost w) := by
  have HA := Lib.hid ha
  clear ha
  go_enter Tryz.func59, Tryz.ntmps59
  go_wp2_with (go_at_call 102; refine (localSplit_any s _ hs HA.out).mono ?_; rintro e w3 ⟨v, ls, rfl, hs1, hn1, hz1, hb1⟩; obtain ⟨A, cp, rfl⟩ := strs_len hs1; generalize hn : ls.length = n at *; have HN := Lib.hid hn; clear hn; have HS2 := Lib.hid hs1; have HB2 := Lib.hid hb1; have HZ := Lib.hid hz1; clear hs1 hb1 hz1)
  have hw2 := HB2.out.size
  go_loopw [2, 8] (fun v i wr => ∃ (k : Nat) (l : List ByteArray), i = .int .i64 k ∧ k ≤ n ∧ l.length ≤ k ∧ Hid (Strs wr w3.heap.size v l) ∧ Hid (Below w3.heap.size w3 wr)) (fun _ i _ => n - (intOf i).toNat)
  case atStart => exact ⟨0, [], rfl, Nat.zero_le _, Nat.le_refl _, strs_nil _ _, Below.refl _ _⟩
  case round =>
    obtain ⟨k, l, rfl, hk, hl, HS, HW⟩ := hrel
    have hww := HW.out.size
    by_cases hlt : k < n
    · obtain ⟨g, cp2, hA, hg1, hg2, hcs⟩ := strs_cells HS2.out (by have := HN.out; omega)
      injection hA with hA1 hA2 hA3
      subst hA1
      have hkl2 : k < ls.length := by have := HN.out; omega
      have hck : wr.cell? ⟨g, k, none⟩ = some (.string (ls[k]'hkl2)) := by
        rw [← hcs k hkl2]
        exact HW.out.cell (p := ⟨g, k, none⟩) hg2
      have HX : Hid (AscN (ls[k]'hkl2) s.size) := HZ.out _ (List.getElem_mem _)
      generalize (ls[k]'hkl2) = x at hck HX
      have hxz := HX.out.size
      clear hcs hA2 hA3
      go_wp2_with (first
        | (go_at_call 55; refine (toLower_any x _ (by omega) HX.out.asc).mono ?_; rintro e w4 ⟨t, rfl, ht, hB4⟩; have hs4 := hB4.size; have HS4 := Lib.hid (strs_below HS.out hB4); have HW4 := Lib.hid (HW.out.trans (hB4.mono hww)); clear ht hB4)
        | (at_builtin; (refine app_str (w0 := w3) w3.heap.size rfl _ _ rfl _ l t HS4.out rfl rfl HW4.out (by omega) (by omega) ?_); intro v1 w1 hs1 hb1 _; have HS1 := Lib.hid hs1; have HW1 := Lib.hid hb1; clear hs1 hb1))
      go_roundw
      case rel => exact ⟨k + 1, _, by go_num, by omega, by simp; omega, HS1, HW1⟩
      case measure => simp only [intOf]; omega
    · obtain ⟨A1, c1, rfl⟩ := strs_len HS.out
      go_wp2_with fail
      go_ret
      exact ⟨_, _, _, rfl, HB2.out.trans (HW.out.mono hw2)⟩
/-- A letter and a number, and no error. -/
def LvPost (w : World) (e : Ending) (w' : World) : Prop := ∃ (s : ByteArray) (p : Option Addr), e = .returned (.tuple #[.agg #[.string s, .pointer p], .nilIface]) ∧ Below w.heap.size w w'
theorem isNum_of_digs {t : ByteArray} {n : Nat} (h : Digs t n) (h0 : bs t ≠ []) : isNum (bs t) = true := isNum_digs h0 h.dig
theorem isNum_0 : isNum (bs ⟨#[48]⟩) = true := by rfl
theorem kept65 {w W : World} (h : Below (w.heap.size + 1) (w.alloc (.cells #[.string (mk []), .pointer none] 65)) W) : (W.cell? ⟨w.heap.size, 0, none⟩ = some (.string (mk [])) ∧ W.cell? ⟨w.heap.size, 1, none⟩ = some (.pointer none)) ∧ W.frozen? ⟨w.heap.size, 0, none⟩ = false ∧ W.frozen? ⟨w.heap.size, 1, none⟩ = false :=
  cells2 (kept_blk h)
set_option maxRecDepth 100000 in
set_option maxHeartbeats 8000000 in
theorem letter_any (l d : ByteArray) (n m : Nat) (w : World) (a ae ai au : Addr) (hG : Gl w a ae ai au) (hl : AscN l n) (hd : Digs d m) (hn : n ≤ 1048576) (hm : m ≤ 1048576) : Calls Tryz.prog 58 #[.string l, .string d] w (LvPost w) := by
  have HL := Lib.hid hl
  have HD := Lib.hid hd
  have hlz := hl.size
  have hdz := hd.size
  have HG1 := Lib.hid (gl_below hG ((Below.refl w.heap.size w).alloc (Nat.le_refl _) (.cells #[.string (mk []), .pointer none] 65)))
  have hB1 : Hid (Below w.heap.size w (w.alloc (.cells #[.string (mk []), .pointer none] 65))) := (Below.refl w.heap.size w).alloc (Nat.le_refl _) _
  clear hG hl hd
  rcases ise_dec l with ⟨hse, hsb⟩ | ⟨hse, hsb⟩
  · have hee := eq_empty hsb
    clear hse hsb
    rcases ise_dec d with ⟨hsd, hsc⟩ | ⟨hsd, hsc⟩
    · have hed := eq_empty hsc
      clear hsd hsc
      go_enter Tryz.func58, Tryz.ntmps58
      go_wp2_with fail
      refine bodyPost_ret (by simp [results, Tryz.results58, go_sem, *]; try rfl) rfl ?_
      exact ⟨_, _, rfl, hB1.out⟩
    · have hed := ne_empty hsc
      have HNU := Lib.hid (isNum_of_digs HD.out hsc)
      clear hsd hsc
      go_enter Tryz.func58, Tryz.ntmps58
      go_wp2_with (go_at_call 52; refine (conv_yes d _ a ae ai au HG1.out (by omega) HNU.out).mono ?_; rintro e w3 ⟨rfl, _, hB3⟩; obtain ⟨⟨q0, q1⟩, r0, r1⟩ := kept65 (w := w) (W := w3) (by rw [World.size_alloc] at hB3; exact hB3); have HB3 := Lib.hid (hB1.out.trans (hB3.mono (by simp))); clear hB3)
      refine bodyPost_ret (by simp [results, Tryz.results58, go_sem, *]; try rfl) rfl ?_
      exact ⟨_, _, rfl, Below.setCell (Below.setCell HB3.out (Nat.le_refl _) _) (Nat.le_refl _) _⟩
  · have hee := ne_empty hsb
    clear hse hsb
    rcases ise_dec d with ⟨hsd, hsc⟩ | ⟨hsd, hsc⟩
    · have hed := eq_empty hsc
      clear hsd hsc
      go_enter Tryz.func58, Tryz.ntmps58
      go_wp2_with (first
        | (go_at_call 55; refine (toLower_any l _ (by omega) HL.out.asc).mono ?_; rintro e w4 ⟨t, rfl, ht, hB4⟩; have HG2 := Lib.hid (gl_below HG1.out hB4); have HB4 := Lib.hid hB4; clear ht hB4)
        | (go_at_call 52; refine (conv_yes ⟨#[48]⟩ _ a ae ai au HG2.out (by decide) isNum_0).mono ?_; rintro e w3 ⟨rfl, _, hB3⟩; have hB5 := HB4.out.trans (hB3.mono HB4.out.size); obtain ⟨⟨q0, q1⟩, r0, r1⟩ := kept65 (w := w) (W := w3) (by rw [World.size_alloc] at hB5; exact hB5); have HB3 := Lib.hid (hB1.out.trans (hB5.mono (by simp))); clear hB3 hB5))
      all_goals refine bodyPost_ret (by simp [results, Tryz.results58, go_sem, *]; try rfl) rfl ?_
      all_goals exact ⟨_, _, rfl, Below.setCell (Below.setCell HB3.out (Nat.le_refl _) _) (Nat.le_refl _) _⟩
    · have hed := ne_empty hsc
      have HNU := Lib.hid (isNum_of_digs HD.out hsc)
      clear hsd hsc
      go_enter Tryz.func58, Tryz.ntmps58
      go_wp2_with (first
        | (go_at_call 55; refine (toLower_any l _ (by omega) HL.out.asc).mono ?_; rintro e w4 ⟨t, rfl, ht, hB4⟩; have HG2 := Lib.hid (gl_below HG1.out hB4); have HB4 := Lib.hid hB4; clear ht hB4)
        | (go_at_call 52; refine (conv_yes d _ a ae ai au HG2.out (by omega) HNU.out).mono ?_; rintro e w3 ⟨rfl, _, hB3⟩; have hB5 := HB4.out.trans (hB3.mono HB4.out.size); obtain ⟨⟨q0, q1⟩, r0, r1⟩ := kept65 (w := w) (W := w3) (by rw [World.size_alloc] at hB5; exact hB5); have HB3 := Lib.hid (hB1.out.trans (hB5.mono (by simp))); clear hB3 hB5))
      all_goals refine bodyPost_ret (by simp [results, Tryz.results58, go_sem, *]; try rfl) rfl ?_
      all_goals exact ⟨_, _, rfl, Below.setCell (Below.setCell HB3.out (Nat.le_refl _) _) (Nat.le_refl _) _⟩

end Go.Proofs.YtoofphhfealcaaaGreatDoor
