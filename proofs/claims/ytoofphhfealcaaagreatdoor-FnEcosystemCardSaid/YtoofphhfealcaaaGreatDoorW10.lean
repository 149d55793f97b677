/-
  WALKS: the reference's tests of bytes, allDigits, Ascii, indexOf, lastOf.
  WALKS: the reference's cut; rows of bytes of a call's own.
  WALKS: the reference's intOf and Number.
  WALKS: the reference's Ascii, indexOf, lastOf, ecoBare; the sort of an ecosystem's name.
  WALKS: the reference's debTrim, DebianKnown, CRANKnown.
  WALKS: the reference's names of the ecosystems, and the sort of a name.
  WALKS: the reference's CRANParse, DebianParse, LikeParse, HackageParse.
  WALKS: the reference's DebianParse.
  WALKS: the reference's LikeParse, HackageParse.
  WALKS: the reference's Ecosystem, EcoKnown; the laws' short.
-/
import Derived.Test.YtoofphhfealcaaaGreatDoorC9
import Derived.Test.YtoofphhfealcaaaGreatDoorE4
import Derived.Test.YtoofphhfealcaaaGreatDoorF2
import Derived.Test.YtoofphhfealcaaaGreatDoorM5
import Derived.Test.YtoofphhfealcaaaGreatDoorN7
namespace Go.Proofs.YtoofphhfealcaaaGreatDoor
open Go.RowKit

theorem spDigit_any (c : UInt8) (w : World) : Calls Tryz.prog 108 #[.int .u8 c.toNat] w fun e w' => e = .returned (.bool (isDig c)) ∧ w = w' := by
  obtain ⟨n, hn⟩ : ∃ n, n = c.toNat := ⟨_, rfl⟩
  rw [← hn]
  obtain ⟨b, hb⟩ : ∃ b, b = isDig c := ⟨_, rfl⟩
  rw [← hb]
  have HD : Hid (b = (decide (48 ≤ n) && decide (n ≤ 57))) := by show _ = _; rw [hb, hn]; rfl
  clear hn hb
  by_cases h1 : 48 ≤ n
  · by_cases h2 : n ≤ 57
    · go_enter Tryz.func108, Tryz.ntmps108
      go_wp2_with fail
      go_ret
      exact ⟨by rw [HD.out]; simp [h1, h2] <;> omega, rfl⟩
    · go_enter Tryz.func108, Tryz.ntmps108
      go_wp2_with fail
      go_ret
      exact ⟨by rw [HD.out]; simp [h1, h2] <;> omega, rfl⟩
  · go_enter Tryz.func108, Tryz.ntmps108
    go_wp2_with fail
    go_ret
    exact ⟨by rw [HD.out]; simp [h1] <;> omega, rfl⟩
theorem isPoint_any (c : UInt8) (w : World) : Calls Tryz.prog 109 #[.int .u8 c.toNat] w fun e w' => e = .returned (.bool (c == 46)) ∧ w = w' := by
  have hb : ((c.toNat : Int) == 46) = (c == 46) := by
    rw [Bool.eq_iff_iff]
    simp only [beq_iff_eq]
    exact ⟨fun h => UInt8.toNat_inj.1 (by simpa using (by omega : c.toNat = 46)), fun h => by rw [h]; rfl⟩
  generalize (c == 46) = b at hb ⊢
  go_enter Tryz.func109, Tryz.ntmps109
  go_wp2_with fail
  go_ret
  exact ⟨rfl, rfl⟩
def crMark (c : UInt8) : Bool := c == 46 || c == 45
theorem byte_eq (c : UInt8) (k : Nat) (hk : k < 256) : ((c.toNat : Int) == (k : Int)) = (c == UInt8.ofNat k) := by
  rw [Bool.eq_iff_iff]
  simp only [beq_iff_eq]
  refine ⟨fun h => UInt8.toNat_inj.1 ?_, fun h => ?_⟩
  · rw [UInt8.toNat_ofNat_of_lt' (by exact hk)]; omega
  · rw [h, UInt8.toNat_ofNat_of_lt' (by exact hk)]
theorem cranMark_any (c : UInt8) (w : World) : Calls Tryz.prog 63 #[.int .u8 c.toNat] w fun e w' => e = .returned (.bool (crMark c)) ∧ w = w' := by
  have hb : ((c.toNat : Int) == 46) = (c == 46) := byte_eq c 46 (by omega)
  have hb2 : ((c.toNat : Int) == 45) = (c == 45) := byte_eq c 45 (by omega)
  unfold crMark
  generalize (c == 46) = b at hb ⊢
  generalize (c == 45) = b2 at hb2 ⊢
  cases b
  · go_enter Tryz.func63, Tryz.ntmps63
    go_wp2_with fail
    go_ret
    exact ⟨rfl, rfl⟩
  · go_enter Tryz.func63, Tryz.ntmps63
    go_wp2_with fail
    go_ret
    exact ⟨rfl, rfl⟩
def dBlank (c : UInt8) : Bool := c == 32 || (decide (9 ≤ c.toNat) && decide (c.toNat ≤ 13))
theorem debBlank_any (c : UInt8) (w : World) : Calls Tryz.prog 36 #[.int .u8 c.toNat] w fun e w' => e = .returned (.bool (dBlank c)) ∧ w = w' := by
  have hb : ((c.toNat : Int) == 32) = (c == 32) := byte_eq c 32 (by omega)
  unfold dBlank
  generalize (c == 32) = b at hb ⊢
  generalize c.toNat = n at *
  cases b
  · by_cases h1 : 9 ≤ n
    · by_cases h2 : n ≤ 13
      · go_enter Tryz.func36, Tryz.ntmps36
        go_wp2_with fail
        go_ret
        exact ⟨by simp [h1, h2] <;> omega, rfl⟩
      · go_enter Tryz.func36, Tryz.ntmps36
        go_wp2_with fail
        go_ret
        exact ⟨by simp [h1, h2] <;> omega, rfl⟩
    · go_enter Tryz.func36, Tryz.ntmps36
      go_wp2_with fail
      go_ret
      exact ⟨by simp <;> omega, rfl⟩
  · go_enter Tryz.func36, Tryz.ntmps36
    go_wp2_with fail
    go_ret
    exact ⟨by simp, rfl⟩
/-- Digits alone, one at least. -/
def dall (l : List UInt8) : Bool := !l.isEmpty && l.all isDig
theorem take_all {l : List UInt8} {p : UInt8 → Bool} {k : Nat} (h : (l.take k).all p = true) (hk : k < l.length) (hp : p l[k] = true) : (l.take (k + 1)).all p = true := by
  rw [List.take_succ_eq_append_getElem hk, List.all_append, h]
  simp [hp]
theorem not_all {l : List UInt8} {p : UInt8 → Bool} {k : Nat} (hk : k < l.length) (hp : p l[k] = false) : l.all p = false := by
  rw [List.all_eq_false]
  exact ⟨_, List.getElem_mem hk, by simp [hp]⟩
set_option maxHeartbeats 1000000 in
theorem allDigits_any (s : ByteArray) (w : World) (hs : s.size ≤ 1048576) : Calls Tryz.prog 106 #[.string s] w fun e w' => e = .returned (.bool (dall (bs s))) ∧ w = w' := by
  have hl := bs_len s
  go_enter Tryz.func106, Tryz.ntmps106
  go_wp2_with fail
  go_loopw [3] (fun i wr => ∃ k : Nat, i = .int .i64 k ∧ k ≤ s.size ∧ Hid (((bs s).take k).all isDig = true) ∧ w = wr) (fun i _ => s.size - (intOf i).toNat)
  case atStart => exact ⟨0, rfl, Nat.zero_le _, by show _ = _; simp, rfl⟩
  case round =>
    obtain ⟨k, rfl, hk, HA, rfl⟩ := hrel
    by_cases hlt : k < s.size
    · have hg := bs_get s k hlt
      have hkl : k < (bs s).length := by omega
      obtain ⟨c, hc⟩ : ∃ c, c = s[k]'hlt := ⟨_, rfl⟩
      have HC := Lib.hid (show (bs s)[k] = c by rw [hc, hg])
      cases hd : isDig c
      · have HD := Lib.hid hd
        clear hd hg
        go_wp2_with (go_at_call 108; rw [← hc]; refine (spDigit_any c _).mono ?_; rintro e w' ⟨rfl, rfl⟩; rw [HD.out])
        go_ret
        refine ⟨?_, rfl⟩
        have : (bs s).all isDig = false := not_all hkl (by rw [HC.out]; exact HD.out)
        simp [dall, this]
      · have HD := Lib.hid hd
        clear hd hg
        go_wp2_with (go_at_call 108; rw [← hc]; refine (spDigit_any c _).mono ?_; rintro e w' ⟨rfl, rfl⟩; rw [HD.out])
        go_roundw
        case rel => exact ⟨k + 1, by go_num, by omega, take_all HA.out hkl (by rw [HC.out]; exact HD.out), trivial⟩
        case measure => simp [intOf]; omega
    · obtain rfl : k = s.size := by omega
      go_wp2_with fail
      go_ret
      refine ⟨?_, rfl⟩
      have h := HA.out
      rw [List.take_of_length_le (by omega)] at h
      unfold dall
      rw [h]
      rcases hb : bs s with _ | ⟨x, r⟩
      · rw [hb] at hl
        simp at hl
        simp [← hl]
      · rw [hb] at hl
        simp at hl
        simp [← hl]
        try omega
theorem size_pos_cons' {t : ByteArray} (h : 0 < t.size) : bs t = t[0] :: bs (t.extract 1 t.size) := by
  have hl := bs_len t
  rw [bs_get t 0 h, bs_extract, List.take_of_length_le (by rw [List.length_drop]; omega)]
  exact List.drop_eq_getElem_cons (l := bs t) (i := 0) (by omega)
end Go.Proofs.YtoofphhfealcaaaGreatDoor

namespace Go.Proofs.YtoofphhfealcaaaGreatDoor
open Go.RowKit
theorem cut_step {p : UInt8 → Bool} {l : List UInt8} {f k : Nat} (hfk : f ≤ k) (hk : k < l.length) (h : ∀ j (hj : j < l.length), f ≤ j → j < k → p l[j] = false) (hp : p l[k] = true) :
    cutBy p (l.drop f) = ((l.drop f).take (k - f)) :: cutBy p (l.drop (k + 1)) := by
  have e : l.drop f = (l.drop f).take (k - f) ++ l[k] :: l.drop (k + 1) := by
    have h1 := List.take_append_drop (k - f) (l.drop f)
    rw [List.drop_drop, show f + (k - f) = k by omega, List.drop_eq_getElem_cons hk] at h1
    exact h1.symm
  have h2 := cutBy_hit p ((l.drop f).take (k - f)) l[k] (l.drop (k + 1)) (fun x hx => by
    obtain ⟨j, hj, e2⟩ := List.mem_iff_getElem.1 hx
    rw [List.length_take, List.length_drop] at hj
    rw [List.getElem_take, List.getElem_drop] at e2
    rw [← e2]
    exact h (f + j) (by omega) (by omega) (by omega)) hp
  rwa [← e] at h2
theorem cut_end {p : UInt8 → Bool} {l : List UInt8} {f : Nat} (h : ∀ j (hj : j < l.length), f ≤ j → j < l.length → p l[j] = false) : cutBy p (l.drop f) = [l.drop f] :=
  cutBy_none p _ fun x hx => by
    obtain ⟨j, hj, e2⟩ := List.mem_iff_getElem.1 hx
    rw [List.length_drop] at hj
    rw [List.getElem_drop] at e2
    rw [← e2]
    exact h (f + j) (by omega) (by omega) (by omega)
/-- What the cut's loop has in hand: at k, the piece begins at f. -/
structure CutS (p : UInt8 → Bool) (s : ByteArray) (d : List ByteArray) (f k : Nat) : Prop where
  le : f ≤ k
  eq : (cutBy p (bs s)).map mk = d ++ (cutBy p ((bs s).drop f)).map mk
  no : ∀ j (hj : j < (bs s).length), f ≤ j → j < k → p (bs s)[j] = false
theorem cutS_start (p : UInt8 → Bool) (s : ByteArray) : CutS p s [] 0 0 := ⟨Nat.le_refl _, by simp, fun j _ _ h => absurd h (by omega)⟩
theorem cutS_next {p : UInt8 → Bool} {s : ByteArray} {d : List ByteArray} {f k : Nat} (h : CutS p s d f k) (hk : k < s.size) (hp : p s[k] = false) : CutS p s d f (k + 1) :=
  ⟨by have := h.le; omega, h.eq, fun j hj h1 h2 => by
    by_cases e : j = k
    · subst e; exact hp
    · exact h.no j hj h1 (by omega)⟩
theorem cutS_hit {p : UInt8 → Bool} {s : ByteArray} {d : List ByteArray} {f k : Nat} (h : CutS p s d f k) (hk : k < s.size) (hp : p s[k] = true) : CutS p s (d ++ [s.extract f k]) (k + 1) (k + 1) :=
  ⟨Nat.le_refl _, by
    rw [h.eq, cut_step h.le (by rw [bs_len]; exact hk) h.no hp, List.map_cons, ← extract_mk, List.append_assoc, List.singleton_append], fun j _ h1 h2 => absurd h1 (by omega)⟩
theorem cutS_end {p : UInt8 → Bool} {s : ByteArray} {d : List ByteArray} {f : Nat} (h : CutS p s d f s.size) : (cutBy p (bs s)).map mk = d ++ [s.extract f s.size] := by
  have hl := bs_len s
  rw [h.eq, cut_end (fun j hj h1 _ => h.no j hj h1 (by omega)), List.map_cons, List.map_nil, extract_mk, List.take_of_length_le (by rw [List.length_drop]; omega)]
set_option maxRecDepth 100000 in
set_option maxHeartbeats 4000000 in
theorem cut_mark (s : ByteArray) (w : World) (hs : s.size ≤ 1048576) : Calls Tryz.prog 62 #[.string s, .func (.func 63) #[] #[]] w fun e w' => ∃ v, e = .returned v ∧ Strs w' w.heap.size v ((cutBy crMark (bs s)).map mk) ∧ Below w.heap.size w w' := by
  go_enter Tryz.func62, Tryz.ntmps62
  go_wp2_with fail
  go_loopw [5, 6, 7] (fun v fr i wr => ∃ (d : List ByteArray) (k f : Nat), fr = .int .i64 f ∧ i = .int .i64 k ∧ d.length ≤ k ∧ Hid (Strs wr w.heap.size v d) ∧ Hid (Below w.heap.size w wr) ∧ ((k ≤ s.size ∧ f ≤ k ∧ Hid (CutS crMark s d f k)) ∨ (k = s.size + 1 ∧ Hid ((cutBy crMark (bs s)).map mk = d)))) (fun _ _ i _ => s.size + 1 - (intOf i).toNat)
  case atStart => exact ⟨[], 0, 0, rfl, rfl, Nat.le_refl _, strs_nil _ _, Below.refl _ _, .inl ⟨Nat.zero_le _, Nat.le_refl _, cutS_start _ s⟩⟩
  case round =>
    obtain ⟨d, k, f, rfl, rfl, hd, HS, HW, ⟨hk, hfk, HC⟩ | ⟨rfl, HE⟩⟩ := hrel
    · have hww := HW.out.size
      by_cases hlt : k < s.size
      · obtain ⟨c, hcc⟩ : ∃ c, c = s[k]'hlt := ⟨_, rfl⟩
        cases hp : crMark c
        · have HP : Hid (crMark (s[k]'hlt) = false) := by show _ = _; rw [← hcc]; exact hp
          have HP2 := Lib.hid hp
          clear hp
          go_wp2_with (go_at_call 63; rw [← hcc]; refine (cranMark_any c _).mono ?_; rintro e w' ⟨rfl, rfl⟩; rw [HP2.out])
          go_roundw
          case rel => exact ⟨d, k + 1, f, rfl, by go_num, by omega, HS, HW, .inl ⟨by omega, by omega, cutS_next HC.out hlt HP.out⟩⟩
          case measure => simp [intOf]; omega
        · have HP : Hid (crMark (s[k]'hlt) = true) := by show _ = _; rw [← hcc]; exact hp
          have HP2 := Lib.hid hp
          clear hp
          go_wp2_with (first
            | (go_at_call 63; rw [← hcc]; refine (cranMark_any c _).mono ?_; rintro e w' ⟨rfl, rfl⟩; rw [HP2.out])
            | (at_builtin; (refine app_str w.heap.size rfl _ _ rfl _ d (s.extract f k) HS.out rfl rfl HW.out hww (by omega) ?_); intro v1 w1 hown1 hbel1 _; have HS1 := Lib.hid hown1; have HW1 := Lib.hid hbel1; clear hown1 hbel1))
          go_roundw
          case rel => exact ⟨_, k + 1, k + 1, by go_num, by go_num, by simp; omega, HS1, HW1, .inl ⟨by omega, Nat.le_refl _, cutS_hit HC.out hlt HP.out⟩⟩
          case measure => simp [intOf]; omega
      · obtain rfl : k = s.size := by omega
        go_wp2_with (at_builtin; (refine app_str w.heap.size rfl _ _ rfl _ d (s.extract f s.size) HS.out rfl rfl HW.out hww (by omega) ?_); intro v1 w1 hown1 hbel1 _; have HS1 := Lib.hid hown1; have HW1 := Lib.hid hbel1; clear hown1 hbel1)
        go_roundw
        case rel => exact ⟨_, s.size + 1, s.size + 1, by go_num, by go_num, by simp; omega, HS1, HW1, .inr ⟨rfl, cutS_end HC.out⟩⟩
        case measure => simp [intOf] <;> omega
    · go_wp2_with fail
      go_ret
      exact ⟨_, rfl, by rw [HE.out]; exact HS.out, HW.out⟩
set_option maxRecDepth 100000 in
set_option maxHeartbeats 4000000 in
theorem cut_point (s : ByteArray) (w : World) (hs : s.size ≤ 1048576) : Calls Tryz.prog 62 #[.string s, .func (.func 109) #[] #[]] w fun e w' => ∃ v, e = .returned v ∧ Strs w' w.heap.size v ((cutBy (· == (46 : UInt8)) (bs s)).map mk) ∧ Below w.heap.size w w' := by
  go_enter Tryz.func62, Tryz.ntmps62
  go_wp2_with fail
  go_loopw [5, 6, 7] (fun v fr i wr => ∃ (d : List ByteArray) (k f : Nat), fr = .int .i64 f ∧ i = .int .i64 k ∧ d.length ≤ k ∧ Hid (Strs wr w.heap.size v d) ∧ Hid (Below w.heap.size w wr) ∧ ((k ≤ s.size ∧ f ≤ k ∧ Hid (CutS (· == (46 : UInt8)) s d f k)) ∨ (k = s.size + 1 ∧ Hid ((cutBy (· == (46 : UInt8)) (bs s)).map mk = d)))) (fun _ _ i _ => s.size + 1 - (intOf i).toNat)
  case atStart => exact ⟨[], 0, 0, rfl, rfl, Nat.le_refl _, strs_nil _ _, Below.refl _ _, .inl ⟨Nat.zero_le _, Nat.le_refl _, cutS_start _ s⟩⟩
  case round =>
    obtain ⟨d, k, f, rfl, rfl, hd, HS, HW, ⟨hk, hfk, HC⟩ | ⟨rfl, HE⟩⟩ := hrel
    · have hww := HW.out.size
      by_cases hlt : k < s.size
      · obtain ⟨c, hcc⟩ : ∃ c, c = s[k]'hlt := ⟨_, rfl⟩
        cases hp : (· == (46 : UInt8)) c
        · have HP : Hid ((· == (46 : UInt8)) (s[k]'hlt) = false) := by show _ = _; rw [← hcc]; exact hp
          have HP2 := Lib.hid hp
          clear hp
          go_wp2_with (go_at_call 109; rw [← hcc]; refine (isPoint_any c _).mono ?_; rintro e w' ⟨rfl, rfl⟩; rw [HP2.out])
          go_roundw
          case rel => exact ⟨d, k + 1, f, rfl, by go_num, by omega, HS, HW, .inl ⟨by omega, by omega, cutS_next HC.out hlt HP.out⟩⟩
          case measure => simp [intOf]; omega
        · have HP : Hid ((· == (46 : UInt8)) (s[k]'hlt) = true) := by show _ = _; rw [← hcc]; exact hp
          have HP2 := Lib.hid hp
          clear hp
          go_wp2_with (first
            | (go_at_call 109; rw [← hcc]; refine (isPoint_any c _).mono ?_; rintro e w' ⟨rfl, rfl⟩; rw [HP2.out])
            | (at_builtin; (refine app_str w.heap.size rfl _ _ rfl _ d (s.extract f k) HS.out rfl rfl HW.out hww (by omega) ?_); intro v1 w1 hown1 hbel1 _; have HS1 := Lib.hid hown1; have HW1 := Lib.hid hbel1; clear hown1 hbel1))
          go_roundw
          case rel => exact ⟨_, k + 1, k + 1, by go_num, by go_num, by simp; omega, HS1, HW1, .inl ⟨by omega, Nat.le_refl _, cutS_hit HC.out hlt HP.out⟩⟩
          case measure => simp [intOf]; omega
      · obtain rfl : k = s.size := by omega
        go_wp2_with (at_builtin; (refine app_str w.heap.size rfl _ _ rfl _ d (s.extract f s.size) HS.out rfl rfl HW.out hww (by omega) ?_); intro v1 w1 hown1 hbel1 _; have HS1 := Lib.hid hown1; have HW1 := Lib.hid hbel1; clear hown1 hbel1)
        go_roundw
        case rel => exact ⟨_, s.size + 1, s.size + 1, by go_num, by go_num, by simp; omega, HS1, HW1, .inr ⟨rfl, cutS_end HC.out⟩⟩
        case measure => simp [intOf] <;> omega
    · go_wp2_with fail
      go_ret
      exact ⟨_, rfl, by rw [HE.out]; exact HS.out, HW.out⟩
theorem byt_cells {w : World} {base : Nat} {v : Value} {l : List UInt8} (h : Byt w base v l) (h0 : 0 < l.length) :
    ∃ g c, v = .slice (some ⟨g, 0, none⟩) l.length c ∧ base ≤ g ∧ g < w.heap.size ∧ (∀ j (hj : j < l.length), w.cell? ⟨g, j, none⟩ = some (.int .u8 (l[j].toNat : Int))) ∧ (∀ j, w.frozen? ⟨g, j, none⟩ = false) ∧
      ∀ q (b : UInt8) (B : Int), q < l.length → B = (b.toNat : Int) → Byt (w.setCell ⟨g, q, none⟩ (.int .u8 B)) base v (l.set q b) := by
  rcases h.2 with ⟨rfl, h1⟩ | ⟨g, cap, cur, rfl, hb, hh, h1, h2, h3, h4⟩
  · omega
  · refine ⟨g, cap, rfl, hb, (Array.getElem?_eq_some_iff.1 hh).1, fun j hj => ?_, fun j => frozen_of_row _ _ _ _ _ hh, fun q b B hq hB => ?_⟩
    · rw [cell_of_row _ _ _ _ _ _ hh]
      have := congrArg (fun x => x[j]?) h4
      simp only [Nat.mul_one, List.getElem?_take, hj, if_true] at this
      rw [Array.getElem?_toList] at this
      rw [this]
      simp [Lib.byteCells, hj]
    · subst hB
      have hh2 := heap_setCell_at w g q (.int .u8 (b.toNat : Int)) cur 5 (0, 0) hh
      refine ⟨by simp [Lib.byteCells], .inr ⟨g, cap, _, by simp, hb, hh2, by simpa using h1, h2, by simpa using h3, ?_⟩⟩
      rw [Array.toList_setIfInBounds, List.length_set, List.take_set, h4]
      simp [Lib.byteCells, List.map_set]
section
variable {ops : Array Oper} {rest : List Oper} {o : Oper} {a : Act} {Q : Exit → Act → World → Prop}
/-- append of one byte. -/
theorem app_byte {w0 W : World} (base : Nat) (hgd : o.guard = none) (s x : Operand)
    (ho : o.op = .call { callee := .builtin .append, args := #[s, x], argTypes := #[148, 148] })
    (v : Value) (l : List UInt8) (b : UInt8) (B : Int) (hB : B = (b.toNat : Int)) (HO : Byt W base v l) (hs : a.eval s = v) (hx : a.eval x = .slice (some ⟨W.heap.size, 0, none⟩) 1 1)
    (HB : Below base w0 W) (hbase : base ≤ W.heap.size) (hl : l.length ≤ 8796093022207)
    (h : ∀ v1 w1, Byt w1 base v1 (l ++ [b]) → Below base w0 w1 → wpList Tryz.prog ops Q rest (a.put o.dst v1) w1) :
    wpList Tryz.prog ops Q (o :: rest) a (W.alloc (.cells #[.int .u8 B] 5)) := by
  subst hB
  exact app1 base hgd s x 148 5 (.int .u8 0) 1 1 ho und148 info5 rfl (by omega) (by omega) v l.length _ #[.int .u8 (b.toNat : Int)] hs hx rfl (by simp [Value.oneCell']) HO HB hbase (by omega)
    fun v1 w1 hown hB1 hg => h v1 w1 (by simpa [Byt, Lib.byteCells] using hown) hB1
end
end Go.Proofs.YtoofphhfealcaaaGreatDoor

namespace Go.Proofs.YtoofphhfealcaaaGreatDoor
open Go.RowKit
theorem make_bytes' (n : Nat) (hn : n ≤ 1048576) (w : World) :
    (Instr.makeSlice 148 (.int .i64 (n : Int)) (.int .i64 (n : Int))).run Tryz.prog w = .ok (.slice (some ⟨w.heap.size, 0, none⟩) n n) (w.alloc (.cells (madeCells #[.int .u8 0] n) 5)) := by
  obtain ⟨i0, hi, hz0, hz1, hz2⟩ := info_parts info5
  have := run_make (P := Tryz.prog) (w := w) 148 5 i0 (.int .u8 0) und148 hi hz0 .i64 .i64 (n : Int) (n : Int) (by omega) (by omega) (by rw [hz2]; omega) (by omega)
  rw [this, hz1]
  simp [Value.cells]
theorem byt_made {W : World} {base : Nat} (n : Nat) (hn : n ≤ 1048576) (hb : base ≤ W.heap.size) : Byt (W.alloc (.cells (madeCells #[.int .u8 0] n) 5)) base (.slice (some ⟨W.heap.size, 0, none⟩) n n) (List.replicate n 0) := by
  refine ⟨by simp [Lib.byteCells], .inr ⟨W.heap.size, n, _, by simp, hb, heap_alloc_new W _, by simp, by unfold maxLen; omega, by rw [size_madeCells]; simp, ?_⟩⟩
  simp [madeCells, Lib.byteCells, Nat.mod_one]
  rw [List.take_of_length_le (by simp)]
  apply List.ext_getElem <;> simp
/-- What of the world the walk keeps: the result's block, the old blocks. -/
def intZ (w : World) : World := w.alloc (.cells #[.bool false, .string (mk [])] 96)
theorem u8_nat (x : Nat) (h : x < 256) : ((UInt8.ofNat x).toNat : Int) = (x : Int) := by
  rw [UInt8.toNat_ofNat_of_lt' (by exact h)]
set_option maxRecDepth 100000 in
set_option maxHeartbeats 4000000 in
theorem intOf_any (s : ByteArray) (w : World) (hs : s.size ≤ 1048576) (hd : (bs s).all isDig = true) : Calls Tryz.prog 107 #[.string s] w fun e w' => ∃ m, e = .returned (.agg #[.bool false, .string m]) ∧ Below w.heap.size w w' := by
  have hl := bs_len s
  have HD := Lib.hid hd
  have HZ0 : Hid (Below (w.heap.size + 1) (intZ w) (intZ w)) := Below.refl _ _
  have hz0 : (intZ w).heap.size = w.heap.size + 1 := by simp [intZ]
  clear hd
  go_enter Tryz.func107, Tryz.ntmps107
  go_upto_region 3 with fail
  go_loopw [3, 4] (fun m i wr => ∃ (k : Nat) (l : List UInt8), i = .int .i64 k ∧ k ≤ s.size ∧ l.length ≤ k ∧ Hid (Byt wr (w.heap.size + 1) m l) ∧ Hid (Below (w.heap.size + 1) (intZ w) wr)) (fun _ i _ => s.size - (intOf i).toNat)
  case atStart => exact ⟨0, [], rfl, Nat.zero_le _, Nat.le_refl _, byt_nil _ _, Below.refl _ _⟩
  case round =>
    obtain ⟨k, l, rfl, hk, hlk, HB, HW⟩ := hrel
    by_cases hlt : k < s.size
    · have hkl : k < (bs s).length := by omega
      have hc : isDig (s[k]'hlt) = true := by
        rw [bs_get s k hlt]
        exact List.all_eq_true.1 HD.out _ (List.getElem_mem _)
      obtain ⟨hc1, hc2⟩ := dig_rng hc
      clear hc
      obtain ⟨d, hd1, hd9⟩ : ∃ d : Nat, (((s[k]'hlt).toNat : Int) - 48) % 256 = (d : Int) ∧ d ≤ 9 := ⟨(s[k]'hlt).toNat - 48, by omega, by omega⟩
      clear hc1 hc2
      obtain ⟨A, cap, rfl⟩ := byt_len HB.out
      generalize hn : l.length = n at *
      have HN := Lib.hid hn
      clear hn
      go_upto_region 7 with fail
      go_loopw [5, 6] (fun cy j wx => ∃ (q c : Nat) (l' : List UInt8), cy = .int .i64 c ∧ j = .int .i64 q ∧ q ≤ n ∧ c ≤ 9 ∧ Hid (l'.length = n) ∧ Hid (Byt wx (w.heap.size + 1) (.slice A n cap) l') ∧ Hid (Below (w.heap.size + 1) (intZ w) wx)) (fun _ j _ => n - (intOf j).toNat)
      case atStart => exact ⟨0, d, l, rfl, rfl, Nat.zero_le _, hd9, HN, HB, HW⟩
      case round =>
        obtain ⟨q, c, l', rfl, rfl, hq, hc9, HL', HB', HW'⟩ := hrel
        by_cases hqn : q < n
        · obtain ⟨g, cp, hm, hbg, hgw, hcell, hfz, hset⟩ := byt_cells HB'.out (by rw [HL'.out]; omega)
          have hql : q < l'.length := by rw [HL'.out]; exact hqn
          have hcq := hcell q hql
          have hfq := hfz q
          obtain ⟨b, hb⟩ : ∃ b : Nat, b = (l'[q]'hql).toNat := ⟨_, rfl⟩
          have hb256 : b < 256 := by rw [hb]; exact UInt8.toNat_lt _
          rw [← hb] at hcq
          simp only [Value.slice.injEq] at hm
          obtain ⟨rfl, _, rfl⟩ := hm
          obtain ⟨x, hx⟩ : ∃ x : Nat, x = c + 10 * b := ⟨_, rfl⟩
          have e1' : (c : Int) + 10 * (b : Int) = (x : Int) := by omega
          have e2 : (x : Int).tmod 256 = ((x % 256 : Nat) : Int) := by rw [Int.tmod_eq_emod_of_nonneg (by omega)]; omega
          have e3 : (x : Int).tdiv 256 = ((x / 256 : Nat) : Int) := by rw [Int.tdiv_eq_ediv_of_nonneg (by omega)]; omega
          have hx9 : x / 256 ≤ 9 := by omega
          have hx8 : x % 256 < 256 := by omega
          have HSET := Lib.hid (hset q (UInt8.ofNat (x % 256)) ((x % 256 : Nat) : Int) hql (u8_nat _ hx8).symm)
          have HFR := Lib.hid hbg
          clear hcell hfz hset hb hql hx
          generalize x % 256 = y at *
          generalize x / 256 = z at *
          go_wp2_with fail
          go_roundw
          case rel => exact ⟨q + 1, z, _, by go_num, by go_num, by omega, hx9, by show _ = _; rw [List.length_set]; exact HL'.out, HSET.out, HW'.out.setCell HFR.out _⟩
          case measure => simp [intOf]; omega
        · obtain rfl : q = n := by omega
          by_cases hc0 : 0 < c
          · have e4 : (c : Int) % 256 = (c : Int) := by omega
            go_wp2_with (at_builtin; (refine app_byte (w0 := intZ w) (w.heap.size + 1) rfl _ _ rfl _ l' (UInt8.ofNat c) _ (u8_nat c (by omega)).symm HB'.out rfl rfl HW'.out (by have := HW'.out.size; omega) (by rw [HL'.out]; omega) ?_); intro v1 w1 hb1 hB1; have HB1 := Lib.hid hb1; have HW1 := Lib.hid hB1; clear hb1 hB1)
            go_roundw
            case rel => exact ⟨k + 1, _, by go_num, by omega, by rw [List.length_append, HL'.out]; simp; omega, HB1, HW1⟩
            case measure => simp [intOf]; omega
          · obtain rfl : c = 0 := by omega
            go_wp2_with fail
            go_roundw
            case rel => exact ⟨k + 1, l', by go_num, by omega, by rw [HL'.out]; omega, HB', HW'⟩
            case measure => simp [intOf]; omega
    · obtain rfl : k = s.size := by omega
      obtain ⟨A, cap, rfl⟩ := byt_len HB.out
      generalize hn : l.length = n at *
      have HN := Lib.hid hn
      clear hn hlt hk
      have hmk := fun W => make_bytes' n (by omega) W
      have hwz := HW.out.size
      have HM := Lib.hid (byt_made (W := wr) (base := w.heap.size + 1) n (by omega) (by omega))
      have HW1 : Hid (Below (w.heap.size + 1) (intZ w) (wr.alloc (.cells (madeCells #[.int .u8 0] n) 5))) := HW.out.alloc (by omega) _
      have HB1 : Hid (Byt (wr.alloc (.cells (madeCells #[.int .u8 0] n) 5)) (w.heap.size + 1) (.slice A n cap) l) := HB.out.alloc _
      have HAB : Hid (∀ g : Addr, A = some g → 0 < n → g.block ≠ wr.heap.size) := fun g hA h0 => by
        obtain ⟨g', c', hm, _, hgw, _⟩ := byt_cells HB.out (by rw [HN.out]; exact h0)
        simp only [Value.slice.injEq] at hm
        obtain ⟨rfl, _, _⟩ := hm
        obtain rfl := Option.some.inj hA
        show g' ≠ _
        omega
      go_upto_region 16 with fail
      clear hmk
      generalize wr.alloc (.cells (madeCells #[.int .u8 0] n) 5) = w1 at *
      generalize wr.heap.size = g2 at *
      go_loopw [8] (fun j wx => ∃ (q : Nat) (L : List UInt8), j = .int .i64 q ∧ q ≤ n ∧ Hid (L.length = n) ∧ Hid (Byt wx (w.heap.size + 1) (.slice A n cap) l) ∧ Hid (Byt wx (w.heap.size + 1) (.slice (some ⟨g2, 0, none⟩) n n) L) ∧ Hid (Below (w.heap.size + 1) (intZ w) wx)) (fun j _ => n - (intOf j).toNat)
      case atStart => exact ⟨0, _, rfl, Nat.zero_le _, List.length_replicate, HB1, HM, HW1⟩
      case round =>
        obtain ⟨q, L, rfl, hq, HL, HB2, HM2, HW2⟩ := hrel
        clear HB1 HM HW1 HB HW
        by_cases hqn : q < n
        · obtain ⟨g, cp, hm, hbg, hgw, hcell, hfz, hset0⟩ := byt_cells HB2.out (by rw [HN.out]; omega)
          simp only [Value.slice.injEq] at hm
          obtain ⟨rfl, hm1, rfl⟩ := hm
          have hne : g ≠ g2 := HAB.out _ rfl (by omega)
          obtain ⟨g', cp', hm', hbg', hgw', hcell', hfz', hset'⟩ := byt_cells HM2.out (by rw [HL.out]; omega)
          simp only [Value.slice.injEq, Option.some.injEq, Addr.mk.injEq, and_true] at hm'
          obtain ⟨rfl, hm2, hm3⟩ := hm'
          obtain ⟨p, hp1, hpn⟩ : ∃ p : Nat, n - 1 - q = p ∧ p < n := ⟨n - 1 - q, rfl, by omega⟩
          have hql : q < l.length := by rw [HN.out]; exact hqn
          have hcq := hcell q hql
          have hfq := hfz q
          have hpl : p < L.length := by rw [HL.out]; exact hpn
          have hcp := hcell' p hpl
          have hfp := hfz' p
          have HS := Lib.hid (hset' p (l[q]'hql) _ hpl rfl)
          have HB3 : Hid (Byt (wr.setCell ⟨g2, p, none⟩ (.int .u8 ((l[q]'hql).toNat : Int))) (w.heap.size + 1) (.slice (some ⟨g, 0, none⟩) n cap) l) := ownsRow_setCell_other HB2.out (by simpa [Value.ownBlock] using hne) _
          have HFR := Lib.hid hbg'
          have HPL : Hid ((L.set p (l[q]'hql)).length = n) := by show _ = _; rw [List.length_set]; exact HL.out
          generalize L.set p (l[q]'hql) = L2 at *
          generalize ((l[q]'hql).toNat : Int) = b at *
          generalize ((L[p]'hpl).toNat : Int) = b' at *
          clear hm1 hm2 hm3 hset0 hcell hfz hcell' hfz' hset' hne hbg hbg' hgw hgw' hql hpl HM2 HB2
          go_wp2_with fail
          go_roundw
          case rel => exact ⟨q + 1, L2, by go_num, by omega, HPL, HB3, HS, HW2.out.setCell HFR.out _⟩
          case measure => simp [intOf]; omega
        · obtain rfl : q = n := by omega
          have hcv := byt_str HM2.out
          have hblk : wr.heap[w.heap.size]? = some (.cells #[.bool false, .string (mk [])] 96) := by
            rw [HW2.out.block _ (by omega)]
            exact heap_alloc_new w _
          have c0 : wr.cell? ⟨w.heap.size, 0, none⟩ = some (.bool false) := by rw [Lib.cell_of_heap hblk]; rfl
          have c1 : wr.cell? ⟨w.heap.size, 1, none⟩ = some (.string (mk [])) := by rw [Lib.cell_of_heap hblk]; rfl
          have f0 : wr.frozen? ⟨w.heap.size, 0, none⟩ = false := frozen_of_row _ _ _ _ _ hblk
          have f1 : wr.frozen? ⟨w.heap.size, 1, none⟩ = false := frozen_of_row _ _ _ _ _ hblk
          clear hblk
          go_wp2_with fail
          refine bodyPost_ret (by simp [results, Tryz.results107, go_sem, *]; try rfl) rfl ?_
          refine ⟨_, rfl, ?_⟩
          have hb : Below w.heap.size w wr := ((Below.refl w.heap.size w).alloc (Nat.le_refl _) _).trans (HW2.out.mono (by omega))
          exact Below.setCell (Below.setCell hb (Nat.le_refl _) _) (Nat.le_refl _) _

theorem num_empty {s : ByteArray} (h : s.size = 0) : isNum (bs s) = dall (bs s) := by
  have : bs s = [] := List.eq_nil_of_length_eq_zero (by rw [bs_len]; exact h)
  rw [this]
  rfl
theorem num_plain {s : ByteArray} (h : 0 < s.size) (h1 : ((s[0].toNat : Int) == 43) = false) (h2 : ((s[0].toNat : Int) == 45) = false) : isNum (bs s) = dall (bs s) := by
  have hc := size_pos_cons' h
  have e1 := byte_eq s[0] 43 (by omega)
  have e2 := byte_eq s[0] 45 (by omega)
  have hs : isSign s[0] = false := by
    unfold isSign
    have a1 : (s[0] == UInt8.ofNat 43) = false := by rw [← e1]; exact h1
    have a2 : (s[0] == UInt8.ofNat 45) = false := by rw [← e2]; exact h2
    simp only [Bool.or_eq_false_iff]
    exact ⟨a1, a2⟩
  have hb : body (s[0] :: bs (s.extract 1 s.size)) = s[0] :: bs (s.extract 1 s.size) := by simp only [body, hs, Bool.false_eq_true, if_false]
  rw [hc]
  unfold isNum dall
  rw [hb]
theorem num_sign {s : ByteArray} (h : 0 < s.size) (h1 : ((s[0].toNat : Int) == 43) = true ∨ ((s[0].toNat : Int) == 45) = true) : isNum (bs s) = dall (bs (s.extract 1 s.size)) := by
  have hc := size_pos_cons' h
  have e1 := byte_eq s[0] 43 (by omega)
  have e2 := byte_eq s[0] 45 (by omega)
  have hs : isSign s[0] = true := by
    unfold isSign
    simp only [Bool.or_eq_true]
    rcases h1 with h1 | h1
    · exact .inl (e1.symm.trans h1)
    · exact .inr (e2.symm.trans h1)
  have hb : body (s[0] :: bs (s.extract 1 s.size)) = bs (s.extract 1 s.size) := by simp only [body, hs, if_true]
  rw [hc]
  unfold isNum dall
  rw [hb]
theorem range_blkW {W : World} {b : Nat} {A : Array Value} {T : TypeId} {fr : Nat × Nat} {cs : List Value} (h : W.heap[b]? = some (.cells A T fr)) (e : A.toList = cs) : W.rangeAt b 0 cs := fun j v hj => by
  rw [Nat.zero_add, cell_of_row _ _ _ _ _ _ h]
  rw [← Array.getElem?_toList, e]
  exact hj
theorem res_cell2 {fn : Func} {tm : Array Value} {k j n : Nat} {ty : TypeId} {b : Nat} {A : Array Value} {d : TypeDesc} {W : World} (hr : fn.results = #[.cell k ty, .tmp j]) (hk : tm.getD k undef = .pointer (some ⟨b, 0, none⟩)) (h : W.heap[b]? = some (.cells A ty (0, 0))) (e : A.toList.length = n)
    (hu : Tryz.prog.underlying ty = some d) (hd : d.isRow = true) (hi : (Tryz.prog.info? ty).map (·.size) = some n) : (results fn tm).run Tryz.prog W = .ok (.tuple #[.agg A, tm.getD j undef]) W := by
  have := res_cell_tmp (j := j) hr hk (range_blkW h rfl) hu hd (by rw [e]; exact hi)
  simpa using this
theorem inf96 : (Tryz.prog.info? 96).map (·.size) = some 2 := by kernel_rfl
theorem und96 : ∃ d, Tryz.prog.underlying 96 = some d ∧ d.isRow = true := row_of (by kernel_rfl)
/-- The result's block and what is kept. -/
structure NuW (w wx : World) : Prop where
  blk : wx.heap[w.heap.size]? = some (.cells #[.bool false, .string (mk [])] 96)
  below : Below w.heap.size w wx
  lt : w.heap.size < wx.heap.size
theorem nuW_start (w : World) : NuW w (intZ w) := ⟨heap_alloc_new w _, (Below.refl _ _).alloc (Nat.le_refl _) _, by simp [intZ]⟩
theorem nuW_step {w W W1 : World} (h : NuW w W) (hb : Below W.heap.size W W1) : NuW w W1 :=
  ⟨by rw [hb.block _ h.lt]; exact h.blk, h.below.trans (hb.mono (by have := h.lt; omega)), Nat.lt_of_lt_of_le h.lt hb.size⟩
theorem nuW_drewN {w W : World} (h : NuW w W) (n : Nat) : NuW w (W.drewN n) := ⟨h.blk, bl_drewN h.below n, h.lt⟩
theorem nuW_cells {w W : World} (h : NuW w W) : W.cell? ⟨w.heap.size, 0, none⟩ = some (.bool false) ∧ W.cell? ⟨w.heap.size, 1, none⟩ = some (.string (mk [])) ∧ W.frozen? ⟨w.heap.size, 0, none⟩ = false ∧ W.frozen? ⟨w.heap.size, 1, none⟩ = false :=
  ⟨by rw [Lib.cell_of_heap h.blk]; rfl, by rw [Lib.cell_of_heap h.blk]; rfl, frozen_of_row _ _ _ _ _ h.blk, frozen_of_row _ _ _ _ _ h.blk⟩
def NumPost (w : World) (ok : Bool) (e : Ending) (w' : World) : Prop := ∃ b m, e = .returned (.tuple #[.agg #[.bool b, .string m], .bool ok]) ∧ Below w.heap.size w w'
set_option maxRecDepth 100000 in
set_option maxHeartbeats 4000000 in
theorem number_any (s : ByteArray) (w : World) (hs : s.size ≤ 1048576) : Calls Tryz.prog 64 #[.string s] w (NumPost w (isNum (bs s))) := by
  obtain ⟨ok, hok⟩ : ∃ ok, ok = isNum (bs s) := ⟨_, rfl⟩
  rw [← hok]
  have HOK := Lib.hid hok
  clear hok
  obtain ⟨d, hd1, hd2⟩ := und96
  by_cases h0 : 0 < s.size
  · obtain h1 | h1 := Bool.eq_false_or_eq_true ((s[0].toNat : Int) == 43)
    · have HQ : Hid (isNum (bs s) = dall (bs (s.extract 1 s.size))) := num_sign h0 (.inl h1)
      obtain ⟨b, hb⟩ : ∃ b, ((s[0].toNat : Int) == 45) = b := ⟨_, rfl⟩
      go_enter Tryz.func64, Tryz.ntmps64
      go_upto_region 3 with fail
      go_quiet (fail)
      have HND : Hid (NuW w ((w.alloc (.cells #[.bool false, .string ⟨#[]⟩] 96)).drewN nq)) := nuW_drewN (nuW_start w) nq
      generalize (w.alloc (.cells #[.bool false, .string ⟨#[]⟩] 96)).drewN nq = W at HND ⊢
      cases b
      · skip
        cases hd : dall (bs (s.extract 1 s.size)) <;> have HD := Lib.hid hd <;> clear hd
        · have HF : Hid (ok = false) := by show _ = _; rw [HOK.out, HQ.out, HD.out]
          obtain ⟨c0, c1, f0, f1⟩ := nuW_cells HND.out
          go_wp2_with (go_at_call 106; refine (allDigits_any (s.extract 1 s.size) _ (by first | exact hs | (simp; omega))).mono ?_; rintro e w1 ⟨rfl, rfl⟩; rw [HD.out])
          apply bodyPost_ret (res_cell2 Tryz.results64 rfl ?_ ?_ hd1 hd2 inf96) rfl
          rotate_left 2
          · repeat (first | (with_reducible exact HND.out.blk) | apply heap_setCell_at)
          · rfl
          exact ⟨_, _, by rw [HF.out]; rfl, by repeat (first | (with_reducible exact HND.out.below) | (with_reducible exact Nat.le_refl _) | (with_reducible refine Below.setCell ?_ ?_ _) | exact Nat.le_refl _)⟩
        · have HF : Hid (ok = true) := by show _ = _; rw [HOK.out, HQ.out, HD.out]
          have HAD : Hid ((bs (s.extract 1 s.size)).all isDig = true) := by
            have := HD.out
            unfold dall at this
            rw [Bool.and_eq_true] at this
            exact this.2
          go_wp2_with (first
            | (go_at_call 106; refine (allDigits_any (s.extract 1 s.size) _ (by first | exact hs | (simp; omega))).mono ?_; rintro e w1 ⟨rfl, rfl⟩; rw [HD.out])
            | (go_at_call 107; refine (intOf_any (s.extract 1 s.size) _ (by first | exact hs | (simp; omega)) HAD.out).mono ?_; rintro e w1 ⟨m, rfl, hB⟩; have HN1 := Lib.hid (nuW_step HND.out hB); obtain ⟨c0, c1, f0, f1⟩ := nuW_cells HN1.out; clear hB; obtain ht | ht := Bool.eq_false_or_eq_true (m.toList == [])))
          all_goals
            apply bodyPost_ret (res_cell2 Tryz.results64 rfl ?_ ?_ hd1 hd2 inf96) rfl
            rotate_left 2
            · repeat (first | (with_reducible exact HN1.out.blk) | apply heap_setCell_at)
            · rfl
            exact ⟨_, _, by rw [HF.out]; rfl, by repeat (first | (with_reducible exact HN1.out.below) | (with_reducible exact Nat.le_refl _) | (with_reducible refine Below.setCell ?_ ?_ _) | exact Nat.le_refl _)⟩
      · skip
        cases hd : dall (bs (s.extract 1 s.size)) <;> have HD := Lib.hid hd <;> clear hd
        · have HF : Hid (ok = false) := by show _ = _; rw [HOK.out, HQ.out, HD.out]
          obtain ⟨c0, c1, f0, f1⟩ := nuW_cells HND.out
          go_wp2_with (go_at_call 106; refine (allDigits_any (s.extract 1 s.size) _ (by first | exact hs | (simp; omega))).mono ?_; rintro e w1 ⟨rfl, rfl⟩; rw [HD.out])
          apply bodyPost_ret (res_cell2 Tryz.results64 rfl ?_ ?_ hd1 hd2 inf96) rfl
          rotate_left 2
          · repeat (first | (with_reducible exact HND.out.blk) | apply heap_setCell_at)
          · rfl
          exact ⟨_, _, by rw [HF.out]; rfl, by repeat (first | (with_reducible exact HND.out.below) | (with_reducible exact Nat.le_refl _) | (with_reducible refine Below.setCell ?_ ?_ _) | exact Nat.le_refl _)⟩
        · have HF : Hid (ok = true) := by show _ = _; rw [HOK.out, HQ.out, HD.out]
          have HAD : Hid ((bs (s.extract 1 s.size)).all isDig = true) := by
            have := HD.out
            unfold dall at this
            rw [Bool.and_eq_true] at this
            exact this.2
          go_wp2_with (first
            | (go_at_call 106; refine (allDigits_any (s.extract 1 s.size) _ (by first | exact hs | (simp; omega))).mono ?_; rintro e w1 ⟨rfl, rfl⟩; rw [HD.out])
            | (go_at_call 107; refine (intOf_any (s.extract 1 s.size) _ (by first | exact hs | (simp; omega)) HAD.out).mono ?_; rintro e w1 ⟨m, rfl, hB⟩; have HN1 := Lib.hid (nuW_step HND.out hB); obtain ⟨c0, c1, f0, f1⟩ := nuW_cells HN1.out; clear hB; obtain ht | ht := Bool.eq_false_or_eq_true (m.toList == [])))
          all_goals
            apply bodyPost_ret (res_cell2 Tryz.results64 rfl ?_ ?_ hd1 hd2 inf96) rfl
            rotate_left 2
            · repeat (first | (with_reducible exact HN1.out.blk) | apply heap_setCell_at)
            · rfl
            exact ⟨_, _, by rw [HF.out]; rfl, by repeat (first | (with_reducible exact HN1.out.below) | (with_reducible exact Nat.le_refl _) | (with_reducible refine Below.setCell ?_ ?_ _) | exact Nat.le_refl _)⟩
    · obtain h2 | h2 := Bool.eq_false_or_eq_true ((s[0].toNat : Int) == 45)
      · have HQ : Hid (isNum (bs s) = dall (bs (s.extract 1 s.size))) := num_sign h0 (.inr h2)
        go_enter Tryz.func64, Tryz.ntmps64
        go_upto_region 3 with fail
        go_quiet (fail)
        have HND : Hid (NuW w ((w.alloc (.cells #[.bool false, .string ⟨#[]⟩] 96)).drewN nq)) := nuW_drewN (nuW_start w) nq
        generalize (w.alloc (.cells #[.bool false, .string ⟨#[]⟩] 96)).drewN nq = W at HND ⊢
        cases hd : dall (bs (s.extract 1 s.size)) <;> have HD := Lib.hid hd <;> clear hd
        · have HF : Hid (ok = false) := by show _ = _; rw [HOK.out, HQ.out, HD.out]
          obtain ⟨c0, c1, f0, f1⟩ := nuW_cells HND.out
          go_wp2_with (go_at_call 106; refine (allDigits_any (s.extract 1 s.size) _ (by first | exact hs | (simp; omega))).mono ?_; rintro e w1 ⟨rfl, rfl⟩; rw [HD.out])
          apply bodyPost_ret (res_cell2 Tryz.results64 rfl ?_ ?_ hd1 hd2 inf96) rfl
          rotate_left 2
          · repeat (first | (with_reducible exact HND.out.blk) | apply heap_setCell_at)
          · rfl
          exact ⟨_, _, by rw [HF.out]; rfl, by repeat (first | (with_reducible exact HND.out.below) | (with_reducible exact Nat.le_refl _) | (with_reducible refine Below.setCell ?_ ?_ _) | exact Nat.le_refl _)⟩
        · have HF : Hid (ok = true) := by show _ = _; rw [HOK.out, HQ.out, HD.out]
          have HAD : Hid ((bs (s.extract 1 s.size)).all isDig = true) := by
            have := HD.out
            unfold dall at this
            rw [Bool.and_eq_true] at this
            exact this.2
          go_wp2_with (first
            | (go_at_call 106; refine (allDigits_any (s.extract 1 s.size) _ (by first | exact hs | (simp; omega))).mono ?_; rintro e w1 ⟨rfl, rfl⟩; rw [HD.out])
            | (go_at_call 107; refine (intOf_any (s.extract 1 s.size) _ (by first | exact hs | (simp; omega)) HAD.out).mono ?_; rintro e w1 ⟨m, rfl, hB⟩; have HN1 := Lib.hid (nuW_step HND.out hB); obtain ⟨c0, c1, f0, f1⟩ := nuW_cells HN1.out; clear hB; obtain ht | ht := Bool.eq_false_or_eq_true (m.toList == [])))
          all_goals
            apply bodyPost_ret (res_cell2 Tryz.results64 rfl ?_ ?_ hd1 hd2 inf96) rfl
            rotate_left 2
            · repeat (first | (with_reducible exact HN1.out.blk) | apply heap_setCell_at)
            · rfl
            exact ⟨_, _, by rw [HF.out]; rfl, by repeat (first | (with_reducible exact HN1.out.below) | (with_reducible exact Nat.le_refl _) | (with_reducible refine Below.setCell ?_ ?_ _) | exact Nat.le_refl _)⟩
      · have HQ : Hid (isNum (bs s) = dall (bs s)) := num_plain h0 h1 h2
        go_enter Tryz.func64, Tryz.ntmps64
        go_upto_region 4 with fail
        have HND : Hid (NuW w (w.alloc (.cells #[.bool false, .string ⟨#[]⟩] 96))) := nuW_start w
        generalize w.alloc (.cells #[.bool false, .string ⟨#[]⟩] 96) = W at HND ⊢
        cases hd : dall (bs (s)) <;> have HD := Lib.hid hd <;> clear hd
        · have HF : Hid (ok = false) := by show _ = _; rw [HOK.out, HQ.out, HD.out]
          obtain ⟨c0, c1, f0, f1⟩ := nuW_cells HND.out
          go_wp2_with (go_at_call 106; refine (allDigits_any (s) _ (by first | exact hs | (simp; omega))).mono ?_; rintro e w1 ⟨rfl, rfl⟩; rw [HD.out])
          apply bodyPost_ret (res_cell2 Tryz.results64 rfl ?_ ?_ hd1 hd2 inf96) rfl
          rotate_left 2
          · repeat (first | (with_reducible exact HND.out.blk) | apply heap_setCell_at)
          · rfl
          exact ⟨_, _, by rw [HF.out]; rfl, by repeat (first | (with_reducible exact HND.out.below) | (with_reducible exact Nat.le_refl _) | (with_reducible refine Below.setCell ?_ ?_ _) | exact Nat.le_refl _)⟩
        · have HF : Hid (ok = true) := by show _ = _; rw [HOK.out, HQ.out, HD.out]
          have HAD : Hid ((bs (s)).all isDig = true) := by
            have := HD.out
            unfold dall at this
            rw [Bool.and_eq_true] at this
            exact this.2
          go_wp2_with (first
            | (go_at_call 106; refine (allDigits_any (s) _ (by first | exact hs | (simp; omega))).mono ?_; rintro e w1 ⟨rfl, rfl⟩; rw [HD.out])
            | (go_at_call 107; refine (intOf_any (s) _ (by first | exact hs | (simp; omega)) HAD.out).mono ?_; rintro e w1 ⟨m, rfl, hB⟩; have HN1 := Lib.hid (nuW_step HND.out hB); obtain ⟨c0, c1, f0, f1⟩ := nuW_cells HN1.out; clear hB; obtain ht | ht := Bool.eq_false_or_eq_true (m.toList == [])))
          all_goals
            apply bodyPost_ret (res_cell2 Tryz.results64 rfl ?_ ?_ hd1 hd2 inf96) rfl
            rotate_left 2
            · repeat (first | (with_reducible exact HN1.out.blk) | apply heap_setCell_at)
            · rfl
            exact ⟨_, _, by rw [HF.out]; rfl, by repeat (first | (with_reducible exact HN1.out.below) | (with_reducible exact Nat.le_refl _) | (with_reducible refine Below.setCell ?_ ?_ _) | exact Nat.le_refl _)⟩
  · have HQ : Hid (isNum (bs s) = dall (bs s)) := num_empty (by omega)
    go_enter Tryz.func64, Tryz.ntmps64
    go_upto_region 4 with fail
    have HND : Hid (NuW w (w.alloc (.cells #[.bool false, .string ⟨#[]⟩] 96))) := nuW_start w
    generalize w.alloc (.cells #[.bool false, .string ⟨#[]⟩] 96) = W at HND ⊢
    cases hd : dall (bs (s)) <;> have HD := Lib.hid hd <;> clear hd
    · have HF : Hid (ok = false) := by show _ = _; rw [HOK.out, HQ.out, HD.out]
      obtain ⟨c0, c1, f0, f1⟩ := nuW_cells HND.out
      go_wp2_with (go_at_call 106; refine (allDigits_any (s) _ (by first | exact hs | (simp; omega))).mono ?_; rintro e w1 ⟨rfl, rfl⟩; rw [HD.out])
      apply bodyPost_ret (res_cell2 Tryz.results64 rfl ?_ ?_ hd1 hd2 inf96) rfl
      rotate_left 2
      · repeat (first | (with_reducible exact HND.out.blk) | apply heap_setCell_at)
      · rfl
      exact ⟨_, _, by rw [HF.out]; rfl, by repeat (first | (with_reducible exact HND.out.below) | (with_reducible exact Nat.le_refl _) | (with_reducible refine Below.setCell ?_ ?_ _) | exact Nat.le_refl _)⟩
    · have HF : Hid (ok = true) := by show _ = _; rw [HOK.out, HQ.out, HD.out]
      have HAD : Hid ((bs (s)).all isDig = true) := by
        have := HD.out
        unfold dall at this
        rw [Bool.and_eq_true] at this
        exact this.2
      go_wp2_with (first
        | (go_at_call 106; refine (allDigits_any (s) _ (by first | exact hs | (simp; omega))).mono ?_; rintro e w1 ⟨rfl, rfl⟩; rw [HD.out])
        | (go_at_call 107; refine (intOf_any (s) _ (by first | exact hs | (simp; omega)) HAD.out).mono ?_; rintro e w1 ⟨m, rfl, hB⟩; have HN1 := Lib.hid (nuW_step HND.out hB); obtain ⟨c0, c1, f0, f1⟩ := nuW_cells HN1.out; clear hB; obtain ht | ht := Bool.eq_false_or_eq_true (m.toList == [])))
      all_goals
        apply bodyPost_ret (res_cell2 Tryz.results64 rfl ?_ ?_ hd1 hd2 inf96) rfl
        rotate_left 2
        · repeat (first | (with_reducible exact HN1.out.blk) | apply heap_setCell_at)
        · rfl
        exact ⟨_, _, by rw [HF.out]; rfl, by repeat (first | (with_reducible exact HN1.out.below) | (with_reducible exact Nat.le_refl _) | (with_reducible refine Below.setCell ?_ ?_ _) | exact Nat.le_refl _)⟩
end Go.Proofs.YtoofphhfealcaaaGreatDoor

namespace Go.Proofs.YtoofphhfealcaaaGreatDoor
open Go.RowKit

def ascB (c : UInt8) : Bool := decide (c.toNat ≤ 127)
theorem asc_all {l : List UInt8} (h : l.all ascB = true) : Asc l := fun c hc => by
  have := List.all_eq_true.1 h c hc
  simp [ascB] at this
  omega
set_option maxHeartbeats 1000000 in
theorem ascii_any (s : ByteArray) (w : World) (hs : s.size ≤ 1048576) : Calls Tryz.prog 13 #[.string s] w fun e w' => e = .returned (.bool ((bs s).all ascB)) ∧ w = w' := by
  have hl := bs_len s
  go_enter Tryz.func13, Tryz.ntmps13
  go_wp2_with fail
  go_loopw [3] (fun i wr => ∃ k : Nat, i = .int .i64 k ∧ k ≤ s.size ∧ Hid (((bs s).take k).all ascB = true) ∧ w = wr) (fun i _ => s.size - (intOf i).toNat)
  case atStart => exact ⟨0, rfl, Nat.zero_le _, by show _ = _; simp, rfl⟩
  case round =>
    obtain ⟨k, rfl, hk, HA, rfl⟩ := hrel
    by_cases hlt : k < s.size
    · have hg := bs_get s k hlt
      have hkl : k < (bs s).length := by omega
      by_cases hd : 127 < (s[k]'hlt).toNat
      · have HC : Hid (ascB (bs s)[k] = false) := by show _ = _; rw [← hg]; simp [ascB]; omega
        clear hg
        go_wp2_with fail
        go_ret
        refine ⟨?_, rfl⟩
        rw [not_all hkl HC.out]
        rfl
      · have HC : Hid (ascB (bs s)[k] = true) := by show _ = _; rw [← hg]; simp [ascB]; omega
        clear hg
        go_wp2_with fail
        go_roundw
        case rel => exact ⟨k + 1, by go_num, by omega, take_all HA.out hkl HC.out, trivial⟩
        case measure => simp [intOf]; omega
    · obtain rfl : k = s.size := by omega
      go_wp2_with fail
      go_ret
      refine ⟨?_, rfl⟩
      have h := HA.out
      rw [List.take_of_length_le (by omega)] at h
      rw [h]
      rfl
/-- Where a byte stands first. -/
def IdxR (c : UInt8) (l : List UInt8) (k : Int) : Prop := (k = -1 ∧ c ∉ l) ∨ ∃ i : Nat, k = i ∧ First c l i
set_option maxHeartbeats 1000000 in
theorem indexOf_any (s : ByteArray) (c : UInt8) (w : World) (hs : s.size ≤ 1048576) : Calls Tryz.prog 18 #[.string s, .int .u8 c.toNat] w fun e w' => (∃ k : Int, e = .returned (.int .i64 k) ∧ IdxR c (bs s) k) ∧ w = w' := by
  have hl := bs_len s
  obtain ⟨n, hn⟩ : ∃ n, n = c.toNat := ⟨_, rfl⟩
  rw [← hn]
  have HN := Lib.hid hn
  clear hn
  go_enter Tryz.func18, Tryz.ntmps18
  go_wp2_with fail
  go_loopw [5] (fun i wr => ∃ k : Nat, i = .int .i64 k ∧ k ≤ s.size ∧ Hid (∀ j (h : j < (bs s).length), j < k → (bs s)[j] ≠ c) ∧ w = wr) (fun i _ => s.size - (intOf i).toNat)
  case atStart => exact ⟨0, rfl, Nat.zero_le _, fun j _ h => absurd h (by omega), rfl⟩
  case round =>
    obtain ⟨k, rfl, hk, HA, rfl⟩ := hrel
    by_cases hlt : k < s.size
    · have hg := bs_get s k hlt
      have hkl : k < (bs s).length := by omega
      by_cases hd : (s[k]'hlt).toNat = n
      · have hb : (((s[k]'hlt).toNat : Int) == (n : Int)) = true := by simp [hd]
        have HC : Hid ((bs s)[k] = c) := by show _ = _; rw [← hg]; exact UInt8.toNat_inj.1 (hd.trans HN.out)
        clear hg hd
        go_wp2_with fail
        go_ret
        exact ⟨⟨_, rfl, .inr ⟨k, rfl, hkl, HC.out, fun j hj => HA.out j (by omega) hj⟩⟩, rfl⟩
      · have hb : (((s[k]'hlt).toNat : Int) == (n : Int)) = false := by rw [beq_eq_false_iff_ne]; omega
        have HC : Hid ((bs s)[k] ≠ c) := by
          intro h
          rw [← hg] at h
          exact hd (by rw [h]; exact HN.out.symm)
        clear hg hd
        go_wp2_with fail
        go_roundw
        case rel => exact ⟨k + 1, by go_num, by omega, fun j h1 h2 => by
          by_cases e : j = k
          · subst e; exact HC.out
          · exact HA.out j h1 (by omega), trivial⟩
        case measure => simp [intOf]; omega
    · obtain rfl : k = s.size := by omega
      go_wp2_with fail
      go_ret
      refine ⟨⟨_, rfl, .inl ⟨rfl, fun hm => ?_⟩⟩, rfl⟩
      obtain ⟨j, hj, e⟩ := List.mem_iff_getElem.1 hm
      exact HA.out j hj (by omega) e
set_option maxHeartbeats 1000000 in
theorem lastOf_any (s : ByteArray) (c : UInt8) (w : World) (hs : s.size ≤ 1048576) : Calls Tryz.prog 65 #[.string s, .int .u8 c.toNat] w fun e w' => (∃ k : Int, e = .returned (.int .i64 k) ∧ (k = -1 ∨ ∃ i : Nat, k = i ∧ i < s.size)) ∧ w = w' := by
  obtain ⟨n, hn⟩ : ∃ n, n = c.toNat := ⟨_, rfl⟩
  rw [← hn]
  clear hn
  go_enter Tryz.func65, Tryz.ntmps65
  go_wp2_with fail
  go_loopw [5, 6] (fun a i wr => ∃ (k : Nat) (x : Int), i = .int .i64 k ∧ a = .int .i64 x ∧ k ≤ s.size ∧ Hid (x = -1 ∨ ∃ i : Nat, x = i ∧ i < s.size) ∧ w = wr) (fun _ i _ => s.size - (intOf i).toNat)
  case atStart => exact ⟨0, _, rfl, rfl, Nat.zero_le _, .inl rfl, rfl⟩
  case round =>
    obtain ⟨k, x, rfl, rfl, hk, HA, rfl⟩ := hrel
    by_cases hlt : k < s.size
    · cases hb : (((s[k]'hlt).toNat : Int) == (n : Int))
      · go_wp2_with fail
        go_roundw
        case rel => exact ⟨k + 1, _, by go_num, rfl, by omega, HA, trivial⟩
        case measure => simp [intOf]; omega
      · go_wp2_with fail
        go_roundw
        case rel => exact ⟨k + 1, _, by go_num, rfl, by omega, .inr ⟨k, rfl, hlt⟩, trivial⟩
        case measure => simp [intOf]; omega
    · obtain rfl : k = s.size := by omega
      go_wp2_with fail
      go_ret
      exact ⟨⟨_, rfl, HA.out⟩, rfl⟩
theorem bare_first {l : List UInt8} {i : Nat} (h : First 58 l i) : bareL l = l.take i := by
  obtain ⟨f1, f2⟩ := first_split h
  have h3 := take_while_hit (l.take i) (l.drop (i + 1)) f2
  rwa [← f1] at h3
set_option maxHeartbeats 1000000 in
theorem ecoBare_any (s : ByteArray) (w : World) (hs : s.size ≤ 1048576) : Calls Tryz.prog 16 #[.string s] w fun e w' => e = .returned (.string (mk (bareL (bs s)))) ∧ w = w' := by
  rcases first_or 58 (bs s) with hn | ⟨i, hi⟩
  · have HN := Lib.hid hn
    have HI := Lib.hid (indexOf_any s 58 w hs)
    clear hn
    go_enter Tryz.func16, Tryz.ntmps16
    go_wp2_with (go_at_call 18; refine HI.out.mono ?_; rintro e w' ⟨⟨k, rfl, hk⟩, rfl⟩; obtain rfl : k = -1 := (by rcases hk with ⟨h, _⟩ | ⟨i, _, h⟩; exact h; exact absurd (by rw [← h.eq]; exact List.getElem_mem _) HN.out); clear hk)
    go_ret
    exact ⟨by rw [take_while_all _ HN.out, mk_bs]; rfl, rfl⟩
  · have HN := Lib.hid hi
    have HI := Lib.hid (indexOf_any s 58 w hs)
    have hlt := hi.lt
    rw [bs_len] at hlt
    have HE : Hid (s.extract 0 i = mk (bareL (bs s))) := by show _ = _; rw [bare_first hi, extract_mk]; simp
    clear hi
    go_enter Tryz.func16, Tryz.ntmps16
    go_wp2_with (go_at_call 18; refine HI.out.mono ?_; rintro e w' ⟨⟨k, rfl, hk⟩, rfl⟩; obtain rfl : k = (i : Int) := (by rcases hk with ⟨_, h⟩ | ⟨j, hj, h⟩; exact absurd (by rw [← HN.out.eq]; exact List.getElem_mem _) h; rw [hj, first_unique h HN.out]); clear hk)
    go_ret
    exact ⟨by first | rfl | (rw [HE.out]; rfl), rfl⟩
end Go.Proofs.YtoofphhfealcaaaGreatDoor

namespace Go.Proofs.YtoofphhfealcaaaGreatDoor
open Go.RowKit
theorem blank_sp (c : UInt8) : dBlank c = Lib.isSp c := by
  have h : ∀ n : Fin 256, dBlank (UInt8.ofNat n.val) = Lib.isSp (UInt8.ofNat n.val) := by decide +kernel
  have := h ⟨c.toNat, c.toNat_lt⟩
  simpa using this
theorem size_pos_cons {t : ByteArray} (h : 0 < t.size) : bs t = t[0] :: bs (t.extract 1 t.size) := by
  have hl := bs_len t
  rw [bs_get t 0 h, bs_extract, List.take_of_length_le (by rw [List.length_drop]; omega)]
  exact List.drop_eq_getElem_cons (l := bs t) (i := 0) (by omega)
theorem size_pos_last {t : ByteArray} {k : Nat} (h : t.size = k + 1) : bs t = bs (t.extract 0 k) ++ [t[k]] := by
  have hl := bs_len t
  rw [bs_get t k (by omega), bs_extract, List.drop_zero, Nat.sub_zero]
  have := List.take_append_drop k (bs t)
  rw [List.drop_eq_getElem_cons (by omega), List.drop_of_length_le (i := k + 1) (by omega)] at this
  exact this.symm
/-- What the first loop takes off, what the second one. -/
def trimA (l : List UInt8) : List UInt8 := l.dropWhile dBlank
def trimZ (l : List UInt8) : List UInt8 := (l.reverse.dropWhile dBlank).reverse
theorem trim_eq (s : ByteArray) : trimB s = mk (trimZ (trimA (bs s))) := by
  unfold trimB trimZ trimA Lib.trimSpace mk bs
  have : dBlank = Lib.isSp := funext blank_sp
  rw [this]
theorem trimZ_snoc (l : List UInt8) (c : UInt8) : trimZ (l ++ [c]) = if dBlank c then trimZ l else l ++ [c] := by
  unfold trimZ
  rw [List.reverse_append]
  simp only [List.reverse_cons, List.reverse_nil, List.nil_append, List.cons_append, List.dropWhile_cons]
  split <;> simp
theorem trimA_cons (l : List UInt8) (c : UInt8) : trimA (c :: l) = if dBlank c then trimA l else c :: l := by
  unfold trimA
  rw [List.dropWhile_cons]
set_option maxRecDepth 100000 in
set_option maxHeartbeats 4000000 in
theorem debTrim_any (s : ByteArray) (w : World) (hs : s.size ≤ 1048576) : Calls Tryz.prog 19 #[.string s] w fun e w' => e = .returned (.string (trimB s)) ∧ w = w' := by
  have HT := Lib.hid (trim_eq s)
  go_enter Tryz.func19, Tryz.ntmps19
  go_upto_block 0 with fail
  go_cut [0] from 3 to 13 (fun v wx => ∃ t : ByteArray, v = .string t ∧ t.size ≤ s.size ∧ Hid (trimA (bs s) = bs t) ∧ w = wx)
  case first =>
    go_upto_region 1 with fail
    go_loopw [0] (fun v wr => ∃ t : ByteArray, v = .string t ∧ t.size ≤ s.size ∧ Hid (trimA (bs s) = trimA (bs t)) ∧ w = wr) (fun v _ => match v with | .string t => t.size | _ => 0)
    case atStart => exact ⟨s, rfl, Nat.le_refl _, rfl, rfl⟩
    case round =>
      obtain ⟨t, rfl, ht, HA, rfl⟩ := hrel
      by_cases h0 : 0 < t.size
      · have hc := size_pos_cons h0
        obtain ⟨c, hcc⟩ : ∃ c, c = t[0]'h0 := ⟨_, rfl⟩
        rw [← hcc] at hc
        have HC := Lib.hid hc
        clear hc
        cases hd : dBlank c
        · have HD := Lib.hid hd
          clear hd
          go_wp2_with (go_at_call 36; rw [← hcc]; refine (debBlank_any c _).mono ?_; rintro e w' ⟨rfl, rfl⟩; rw [HD.out])
          go_meet
          exact ⟨t, rfl, ht, by show _ = _; rw [HA.out, HC.out, trimA_cons, HD.out]; rfl, rfl⟩
        · have HD := Lib.hid hd
          clear hd
          go_wp2_with (go_at_call 36; rw [← hcc]; refine (debBlank_any c _).mono ?_; rintro e w' ⟨rfl, rfl⟩; rw [HD.out])
          go_roundw
          case rel => exact ⟨_, rfl, by simp; omega, by show _ = _; rw [HA.out, HC.out, trimA_cons, HD.out]; rfl, trivial⟩
          case measure => simp; omega
      · go_wp2_with fail
        go_meet
        have h1 : bs t = [] := List.eq_nil_of_length_eq_zero (by rw [bs_len]; omega)
        exact ⟨t, rfl, ht, by show _ = _; rw [HA.out, h1]; rfl, rfl⟩
  case rest =>
    obtain ⟨t0, rfl, ht0, HA0, rfl⟩ := hcut
    go_upto_region 3 with fail
    go_loopw [0] (fun v wr => ∃ t : ByteArray, v = .string t ∧ t.size ≤ s.size ∧ Hid (trimZ (bs t0) = trimZ (bs t)) ∧ w = wr) (fun v _ => match v with | .string t => t.size | _ => 0)
    case atStart => exact ⟨t0, rfl, ht0, rfl, rfl⟩
    case round =>
      obtain ⟨t, rfl, ht, HA, rfl⟩ := hrel
      by_cases h0 : 0 < t.size
      · obtain ⟨k, hk⟩ : ∃ k, t.size = k + 1 := ⟨t.size - 1, by omega⟩
        have hc := size_pos_last hk
        have hkt : k < t.size := by omega
        obtain ⟨c, hcc⟩ : ∃ c, c = t[k]'hkt := ⟨_, rfl⟩
        rw [← hcc] at hc
        have HC := Lib.hid hc
        have hk1 : (t.size : Int) - 1 = (k : Int) := by omega
        have HKK := Lib.hid hk
        clear hc
        cases hd : dBlank c
        · have HD := Lib.hid hd
          clear hd
          go_wp2_with (go_at_call 36; rw [← hcc]; refine (debBlank_any c _).mono ?_; rintro e w' ⟨rfl, rfl⟩; rw [HD.out])
          go_ret
          refine ⟨?_, rfl⟩
          rw [HT.out, HA0.out, HA.out, HC.out, trimZ_snoc, HD.out, ← HC.out]
          simp [mk_bs]
        · have HD := Lib.hid hd
          clear hd
          go_wp2_with (go_at_call 36; rw [← hcc]; refine (debBlank_any c _).mono ?_; rintro e w' ⟨rfl, rfl⟩; rw [HD.out])
          go_roundw
          case rel => exact ⟨_, rfl, by simp; omega, by show _ = _; rw [HA.out, HC.out, trimZ_snoc, HD.out]; simp, trivial⟩
          case measure => simp; omega
      · go_wp2_with fail
        go_ret
        have h1 : bs t = [] := List.eq_nil_of_length_eq_zero (by rw [bs_len]; omega)
        refine ⟨?_, rfl⟩
        rw [HT.out, HA0.out, HA.out, h1]
        have : t = mk [] := bs_inj (by rw [h1, bs_mk])
        rw [this]
        rfl
/-- A text of which it is said what it means: of ASCII alone. -/
def KnPost (w : World) (P : Prop) (e : Ending) (w' : World) : Prop := (∃ b, e = .returned (.bool b) ∧ (b = true → P)) ∧ w = w'
def isSg (c : UInt8) : Bool := c == 43 || c == 45
set_option maxRecDepth 100000 in
set_option maxHeartbeats 4000000 in
theorem debKnown_any (s : ByteArray) (w : World) (hs : s.size ≤ 1048576) : Calls Tryz.prog 12 #[.string s] w (KnPost w ((bs s).all ascB = true)) := by
  obtain ⟨t, ht⟩ : ∃ t, t = trimB s := ⟨_, rfl⟩
  have hts : t.size ≤ s.size := by rw [ht]; exact trimB_size s
  have HDT := Lib.hid (debTrim_any s w hs)
  rw [← ht] at HDT
  have HI : Hid (Calls Tryz.prog 18 #[.string t, .int .u8 58] w fun e w' => (∃ k : Int, e = .returned (.int .i64 k) ∧ IdxR 58 (bs t) k) ∧ w = w') := indexOf_any t 58 w (by omega)
  have HI0 : Hid (Calls Tryz.prog 18 #[.string s, .int .u8 0] w fun e w' => (∃ k : Int, e = .returned (.int .i64 k) ∧ IdxR 0 (bs s) k) ∧ w = w') := indexOf_any s 0 w hs
  have HAS := Lib.hid (ascii_any s w hs)
  generalize hab : (bs s).all ascB = ab at HAS ⊢
  clear ht hab
  go_enter Tryz.func12, Tryz.ntmps12
  go_upto_region 2 with (go_at_call 19; refine HDT.out.mono ?_; rintro e w' ⟨rfl, rfl⟩)
  go_cut [4] (fun v wx => ∃ b, v = .bool b ∧ w = wx)
  case first =>
    clear HI0 HAS
    by_cases h0 : 0 < t.size
    · obtain h1 | h1 := Bool.eq_false_or_eq_true ((t[0].toNat : Int) == 43)
      · go_wp2_with (go_at_call 18; refine HI.out.mono ?_; rintro e w' ⟨⟨k, rfl, hk⟩, rfl⟩; clear hk; by_cases hk0 : 0 ≤ k)
        all_goals (go_meet; exact ⟨_, rfl, rfl⟩)
      · obtain h2 | h2 := Bool.eq_false_or_eq_true ((t[0].toNat : Int) == 45)
        · go_wp2_with (go_at_call 18; refine HI.out.mono ?_; rintro e w' ⟨⟨k, rfl, hk⟩, rfl⟩; clear hk; by_cases hk0 : 0 ≤ k)
          all_goals (go_meet; exact ⟨_, rfl, rfl⟩)
        · go_wp2_with fail
          go_meet
          exact ⟨_, rfl, rfl⟩
    · go_wp2_with fail
      go_meet
      exact ⟨_, rfl, rfl⟩
  case rest =>
    obtain ⟨b, rfl, rfl⟩ := hcut
    clear HI HDT
    cases ab
    · go_wp2_with (go_at_call 13; refine HAS.out.mono ?_; rintro e w' ⟨rfl, rfl⟩)
      go_ret
      exact ⟨⟨_, rfl, fun h => by simp at h⟩, rfl⟩
    · go_wp2_with (first
        | (go_at_call 13; refine HAS.out.mono ?_; rintro e w' ⟨rfl, rfl⟩)
        | (go_at_call 18; refine HI0.out.mono ?_; rintro e w' ⟨⟨k, rfl, hk⟩, rfl⟩; clear hk; by_cases hk0 : k < 0))
      all_goals
        go_ret
        exact ⟨⟨_, rfl, fun _ => by first | trivial | rfl⟩, rfl⟩
set_option maxHeartbeats 1000000 in
theorem cranKnown_any (s : ByteArray) (w : World) (hs : s.size ≤ 1048576) : Calls Tryz.prog 11 #[.string s] w (KnPost w True) := by
  have HI : Hid (Calls Tryz.prog 18 #[.string s, .int .u8 43] w fun e w' => (∃ k : Int, e = .returned (.int .i64 k) ∧ IdxR 43 (bs s) k) ∧ w = w') := indexOf_any s 43 w hs
  go_enter Tryz.func11, Tryz.ntmps11
  go_wp2_with (go_at_call 18; refine HI.out.mono ?_; rintro e w' ⟨⟨k, rfl, hk⟩, rfl⟩; clear hk)
  go_ret
  exact ⟨⟨_, rfl, fun _ => trivial⟩, rfl⟩
end Go.Proofs.YtoofphhfealcaaaGreatDoor

namespace Go.Proofs.YtoofphhfealcaaaGreatDoor
open Go.RowKit
theorem tab_names : ∀ p ∈ ecoTab, (List.range 12).any (fun k => (nameTab.getD (k + 1) []).contains p.1) = true := by decide +kernel
theorem kind_none {l : List UInt8} (h : ∀ k, k < 12 → l ∉ nameTab.getD (k + 1) []) : kindB l = 0 := by
  unfold kindB
  split
  · rename_i p hp
    exfalso
    have h1 := List.mem_of_find?_eq_some hp
    have h2 := List.find?_some hp
    simp only [beq_iff_eq] at h2
    have h3 := tab_names p h1
    rw [List.any_eq_true] at h3
    obtain ⟨k, hk, h4⟩ := h3
    rw [List.mem_range] at hk
    rw [List.contains_iff_mem, ← h2] at h4
    exact h k hk h4
  · rfl
theorem kind_hit {l : List UInt8} {k : Nat} (hk : k < 12) (h : l ∈ nameTab.getD (k + 1) []) : kindB l = k + 1 := (names_ok ⟨k, hk⟩ l h).2.2.1
/-- The names of a sort, in a row. -/
def NmRow (w : World) (l : List (List UInt8)) (e : Ending) (w' : World) : Prop :=
  ∃ g, e = .returned (.slice (some ⟨g, 0, none⟩) l.length l.length) ∧ (∀ j (h : j < l.length), w'.cell? ⟨g, j, none⟩ = some (.string (mk l[j]))) ∧ Below w.heap.size w w'
theorem nmRow_new (w : World) (l : List (List UInt8)) : NmRow w l (.returned (.slice (some ⟨w.heap.size, 0, none⟩) l.length l.length)) (w.alloc (nameObj l)) :=
  ⟨w.heap.size, rfl, fun j h => by
    rw [cell_of_row _ _ _ _ _ _ (heap_alloc_new w (nameObj l))]
    simp [h], (Below.refl _ _).alloc (Nat.le_refl _) _⟩
set_option maxRecDepth 100000 in
set_option maxHeartbeats 4000000 in
theorem ecoNames_any (k : Nat) (hk : k < 12) (w : World) : Calls Tryz.prog 17 #[.int .i64 ((k : Int) + 1)] w (NmRow w (nameTab.getD (k + 1) [])) := by
  have : k = 0 ∨ k = 1 ∨ k = 2 ∨ k = 3 ∨ k = 4 ∨ k = 5 ∨ k = 6 ∨ k = 7 ∨ k = 8 ∨ k = 9 ∨ k = 10 ∨ k = 11 := by omega
  rcases this with rfl | rfl | rfl | rfl | rfl | rfl | rfl | rfl | rfl | rfl | rfl | rfl
  · have HN := Lib.hid (nmRow_new w (nameTab.getD (0 + 1) []))
    go_enter Tryz.func17, Tryz.ntmps17
    go_wp2_with fail
    go_ret
    exact HN.out
  · have HN := Lib.hid (nmRow_new w (nameTab.getD (1 + 1) []))
    go_enter Tryz.func17, Tryz.ntmps17
    go_wp2_with fail
    go_ret
    exact HN.out
  · have HN := Lib.hid (nmRow_new w (nameTab.getD (2 + 1) []))
    go_enter Tryz.func17, Tryz.ntmps17
    go_wp2_with fail
    go_ret
    exact HN.out
  · have HN := Lib.hid (nmRow_new w (nameTab.getD (3 + 1) []))
    go_enter Tryz.func17, Tryz.ntmps17
    go_wp2_with fail
    go_ret
    exact HN.out
  · have HN := Lib.hid (nmRow_new w (nameTab.getD (4 + 1) []))
    go_enter Tryz.func17, Tryz.ntmps17
    go_wp2_with fail
    go_ret
    exact HN.out
  · have HN := Lib.hid (nmRow_new w (nameTab.getD (5 + 1) []))
    go_enter Tryz.func17, Tryz.ntmps17
    go_wp2_with fail
    go_ret
    exact HN.out
  · have HN := Lib.hid (nmRow_new w (nameTab.getD (6 + 1) []))
    go_enter Tryz.func17, Tryz.ntmps17
    go_wp2_with fail
    go_ret
    exact HN.out
  · have HN := Lib.hid (nmRow_new w (nameTab.getD (7 + 1) []))
    go_enter Tryz.func17, Tryz.ntmps17
    go_wp2_with fail
    go_ret
    exact HN.out
  · have HN := Lib.hid (nmRow_new w (nameTab.getD (8 + 1) []))
    go_enter Tryz.func17, Tryz.ntmps17
    go_wp2_with fail
    go_ret
    exact HN.out
  · have HN := Lib.hid (nmRow_new w (nameTab.getD (9 + 1) []))
    go_enter Tryz.func17, Tryz.ntmps17
    go_wp2_with fail
    go_ret
    exact HN.out
  · have HN := Lib.hid (nmRow_new w (nameTab.getD (10 + 1) []))
    go_enter Tryz.func17, Tryz.ntmps17
    go_wp2_with fail
    go_ret
    exact HN.out
  · have HN := Lib.hid (nmRow_new w (nameTab.getD (11 + 1) []))
    go_enter Tryz.func17, Tryz.ntmps17
    go_wp2_with fail
    go_ret
    exact HN.out
/-- What KindOf answers. -/
def KofPost (w : World) (k : Nat) (e : Ending) (w' : World) : Prop := e = .returned (.int .i64 (k : Int)) ∧ Below w.heap.size w w'
set_option maxRecDepth 100000 in
set_option maxHeartbeats 4000000 in
theorem kindOf_any (s : ByteArray) (w : World) (hs : s.size ≤ 1048576) : Calls Tryz.prog 10 #[.string s] w (KofPost w (kindB (bareL (bs s)))) := by
  obtain ⟨l, hl⟩ : ∃ l, l = bareL (bs s) := ⟨_, rfl⟩
  have HB := Lib.hid (ecoBare_any s w hs)
  rw [← hl] at HB ⊢
  clear hl
  obtain ⟨b, hb⟩ : ∃ b, b = mk l := ⟨_, rfl⟩
  rw [← hb] at HB
  have HBB := Lib.hid hb
  clear hb
  go_enter Tryz.func10, Tryz.ntmps10
  go_wp2_with (go_at_call 16; refine HB.out.mono ?_; rintro e w' ⟨rfl, rfl⟩)
  go_loopw [3] (fun kv wr => ∃ k : Nat, kv = .int .i64 ((k : Int) + 1) ∧ k ≤ 12 ∧ Hid (∀ j, j < k → l ∉ nameTab.getD (j + 1) []) ∧ Hid (Below w.heap.size w wr)) (fun kv _ => 13 - (intOf kv).toNat)
  case atStart => exact ⟨0, rfl, by omega, fun j h => absurd h (by omega), Below.refl _ _⟩
  case round =>
    obtain ⟨k, rfl, hk, HK, HW⟩ := hrel
    by_cases h12 : k < 12
    · have HN := Lib.hid (fun W => ecoNames_any k h12 W)
      obtain ⟨N, hN⟩ : ∃ N, N = nameTab.getD (k + 1) [] := ⟨_, rfl⟩
      rw [← hN] at HN
      have hNl : N.length ≤ 11 := by rw [hN]; exact (names_len ⟨k, h12⟩).2
      have HNN := Lib.hid hN
      clear hN
      go_upto_region 7 with (go_at_call 17; refine (HN.out _).mono ?_; rintro e w1 ⟨g, rfl, hc, hB⟩; have HC := Lib.hid hc; have HW1 := Lib.hid (HW.out.trans (hB.mono HW.out.size)); clear hc hB)
      go_loopw [5] (fun iv wx => ∃ i : Nat, iv = .int .i64 i ∧ i ≤ N.length ∧ Hid (∀ j (h : j < N.length), j < i → N[j] ≠ l) ∧ w1 = wx) (fun iv _ => N.length - (intOf iv).toNat)
      case atStart => exact ⟨0, rfl, Nat.zero_le _, fun j _ h => absurd h (by omega), rfl⟩
      case round =>
        obtain ⟨i, rfl, hi, HI, rfl⟩ := hrel
        by_cases hlt : i < N.length
        · have hci := HC.out i hlt
          by_cases he : N[i] = l
          · have ht : ((mk N[i]).toList == b.toList) = true := by rw [he, HBB.out]; simp
            have HM : Hid (l ∈ nameTab.getD (k + 1) []) := by
              show _ ∈ _
              rw [← HNN.out, ← he]
              exact List.getElem_mem hlt
            clear he
            go_wp2_with fail
            go_ret
            exact ⟨by rw [kind_hit h12 HM.out]; rfl, HW1.out⟩
          · have ht : ((mk N[i]).toList == b.toList) = false := by
              rw [beq_eq_false_iff_ne, HBB.out, toList_bs, toList_bs, bs_mk, bs_mk]
              exact he
            have HE := Lib.hid he
            clear he
            go_wp2_with fail
            go_roundw
            case rel => exact ⟨i + 1, by go_num, by omega, fun j h1 h2 => by
              by_cases e : j = i
              · subst e; exact HE.out
              · exact HI.out j h1 (by omega), trivial⟩
            case measure => simp [intOf]; omega
        · obtain rfl : i = N.length := by omega
          go_wp2_with fail
          go_roundw
          case rel => exact ⟨k + 1, by go_num, by omega, fun j hj => by
            by_cases e : j = k
            · subst e
              rw [← HNN.out]
              intro hm
              obtain ⟨q, hq, e2⟩ := List.mem_iff_getElem.1 hm
              exact HI.out q hq hq e2
            · exact HK.out j (by omega), HW1.out⟩
          case measure => simp [intOf]; omega
    · obtain rfl : k = 12 := by omega
      go_wp2_with fail
      go_ret
      exact ⟨by rw [kind_none (fun j hj => HK.out j hj)]; rfl, HW.out⟩
end Go.Proofs.YtoofphhfealcaaaGreatDoor

namespace Go.Proofs.YtoofphhfealcaaaGreatDoor
open Go.RowKit
/-- Numbers of the call's own, of whatever values. -/
def Ints (w : World) (base : Nat) (v : Value) (n : Nat) : Prop := ∃ xs, w.ownsRow base 96 2 v n xs
theorem ints_nil (w : World) (base : Nat) : Ints w base (.slice none 0 0) 0 := ⟨[], World.ownsRow_nil _ _ _ _⟩
theorem info96 : (Tryz.prog.info? 96).map (fun i => (i.zero, i.size, i.bytes)) = some (some (.agg #[.bool false, .string (mk [])]), 2, 24) := by kernel_rfl
theorem und92 : Tryz.prog.underlying 92 = some (.slice 96) := by kernel_rfl
section
variable {ops : Array Oper} {rest : List Oper} {o : Oper} {a : Act} {Q : Exit → Act → World → Prop}
/-- append of one number. -/
theorem app_num {w0 W : World} (base : Nat) (hgd : o.guard = none) (s x : Operand)
    (ho : o.op = .call { callee := .builtin .append, args := #[s, x], argTypes := #[92, 92] })
    (v : Value) (n : Nat) (b : Bool) (m : ByteArray) (HO : Ints W base v n) (H : Nat) (hH : W.heap.size = H) (hs : a.eval s = v) (hx : a.eval x = .slice (some ⟨H, 0, none⟩) 1 1)
    (HB : Below base w0 W) (hbase : base ≤ W.heap.size) (hl : n ≤ 1099511627776)
    (h : ∀ v1 w1, Ints w1 base v1 (n + 1) → Below base w0 w1 → wpList Tryz.prog ops Q rest (a.put o.dst v1) w1) :
    wpList Tryz.prog ops Q (o :: rest) a (W.alloc (.cells #[.bool b, .string m] 96)) := by
  obtain ⟨xs, HO⟩ := HO
  subst hH
  exact app1 base hgd s x 92 96 (.agg #[.bool false, .string (mk [])]) 2 24 ho und92 info96 rfl (by omega) (by omega) v n xs #[.bool b, .string m] hs hx rfl (by simp [Value.oneCell']) HO HB hbase (by omega)
    fun v1 w1 hown hB1 hg => h v1 w1 ⟨_, hown⟩ hB1
end
theorem ints_below {w w1 : World} {base n : Nat} {v : Value} (h : Ints w base v n) (hb : Below w.heap.size w w1) : Ints w1 base v n := by
  obtain ⟨xs, h⟩ := h
  exact ⟨xs, row_below h hb⟩
/-- Which parts a text of CRAN has. -/
def crParts (s : ByteArray) : List ByteArray := (cutBy crMark (bs s)).map mk
def crOK (s : ByteArray) : Bool := decide (bs s = []) || (crParts s).all fun x => isNum (bs x)
theorem take_allB {l : List ByteArray} {p : ByteArray → Bool} {k : Nat} (h : (l.take k).all p = true) (hk : k < l.length) (hp : p l[k] = true) : (l.take (k + 1)).all p = true := by
  rw [List.take_succ_eq_append_getElem hk, List.all_append, h]
  simp [hp]
theorem not_allB {l : List ByteArray} {p : ByteArray → Bool} {k : Nat} (hk : k < l.length) (hp : p l[k] = false) : l.all p = false := by
  rw [List.all_eq_false]
  exact ⟨_, List.getElem_mem hk, by simp [hp]⟩
def CranPPost (w : World) (ok : Bool) (e : Ending) (w' : World) : Prop := ∃ v, e = .returned (.tuple #[v, .bool ok]) ∧ Below w.heap.size w w'
set_option maxRecDepth 100000 in
set_option maxHeartbeats 4000000 in
theorem cranParse_any (s : ByteArray) (w : World) (hs : s.size ≤ 1048576) : Calls Tryz.prog 33 #[.string s] w (CranPPost w (crOK s)) := by
  have hcut := cut_mark s w hs
  have HCUT := Lib.hid hcut
  clear hcut
  rcases ise_dec s with ⟨hse, hsb⟩ | ⟨hse, hsb⟩
  · have HOK : Hid (crOK s = true) := by show _ = _; simp [crOK, hsb]
    have ht : (s.toList == []) = true := by simpa using hse
    go_enter Tryz.func33, Tryz.ntmps33
    go_wp2_with fail
    go_ret2
    exact ⟨_, by rw [HOK.out]; rfl, Below.refl _ _⟩
  · have HOK : Hid (crOK s = (crParts s).all fun x => isNum (bs x)) := by show _ = _; simp [crOK, hsb]
    have ht : (s.toList == []) = false := by
      rw [beq_eq_false_iff_ne, toList_bs]
      exact hsb
    have hpl : (crParts s).length ≤ s.size + 1 := by
      have := cutBy_len crMark (bs s)
      rw [bs_len] at this
      simpa [crParts] using this
    have hpm : ∀ x ∈ crParts s, x.size ≤ 1048576 := fun x hx => by
      unfold crParts at hx
      rw [List.mem_map] at hx
      obtain ⟨l, h1, rfl⟩ := hx
      rw [mk_size]
      have := cutBy_mem_len _ _ l h1
      rw [bs_len] at this
      omega
    generalize hcp : crParts s = P at *
    have HCP := Lib.hid hcp
    clear hcp
    go_enter Tryz.func33, Tryz.ntmps33
    go_upto_region 5 with (go_at_call 62; refine HCUT.out.mono ?_; rintro e w1 ⟨v, rfl, hS, hB⟩; have HS : Hid (Strs w1 w.heap.size v P) := (by rw [← HCP.out]; exact hS); have HB := Lib.hid hB; clear hS hB)
    obtain ⟨A, cap, rfl⟩ := strs_len HS.out
    go_loopw [2, 5] (fun v i wr => ∃ k n : Nat, i = .int .i64 k ∧ k ≤ P.length ∧ n ≤ k ∧ Hid (Ints wr w1.heap.size v n) ∧ Hid ((P.take k).all (fun x => isNum (bs x)) = true) ∧ Hid (Below w1.heap.size w1 wr)) (fun _ i _ => P.length - (intOf i).toNat)
    case atStart => exact ⟨0, 0, rfl, Nat.zero_le _, Nat.le_refl _, ints_nil _ _, by show _ = _; simp, Below.refl _ _⟩
    case round =>
      obtain ⟨k, n, rfl, hk, hnk, HI, HA, HW⟩ := hrel
      have hww := HW.out.size
      by_cases hlt : k < P.length
      · obtain ⟨g, c, hv, hbg, hgw, hcell⟩ := strs_cells HS.out (by omega)
        simp only [Value.slice.injEq] at hv
        obtain ⟨rfl, _, rfl⟩ := hv
        have hck : wr.cell? ⟨g, k, none⟩ = some (.string P[k]) := by
          rw [HW.out.cell (p := ⟨g, k, none⟩) hgw]
          exact hcell k hlt
        have hx := hpm P[k] (List.getElem_mem hlt)
        obtain ⟨x, hxe⟩ : ∃ x, x = P[k] := ⟨_, rfl⟩
        rw [← hxe] at hck hx
        have HXE := Lib.hid hxe
        clear hxe hcell
        cases hnum : isNum (bs x) <;> have HNU := Lib.hid hnum <;> clear hnum
        · go_wp2_with (go_at_call 64; refine (number_any x _ hx).mono ?_; rintro e w2 ⟨b, m, rfl, hB2⟩; have HB2 := Lib.hid hB2; clear hB2; rw [HNU.out])
          go_ret2
          refine ⟨_, by rw [HOK.out]; have := not_allB (p := fun x => isNum (bs x)) hlt (by rw [← HXE.out]; exact HNU.out); rw [this]; rfl, ?_⟩
          have h1 := HB2.out
          exact ((HB.out.trans (HW.out.mono HB.out.size)).trans (h1.mono (by have := HB.out.size; omega))).alloc (by have := HB.out.size; have := h1.size; omega) _
        · go_upto_region 10 with (go_at_call 64; refine (number_any x _ hx).mono ?_; rintro e w2 ⟨b, m, rfl, hB2⟩; have HB2 := Lib.hid hB2; clear hB2; rw [HNU.out])
          have h2s := HB2.out.size
          have HI2 : Hid (Ints (w2.alloc (.cells #[.bool b, .string m] 96)) w1.heap.size u2 n) := ints_below (ints_below HI.out HB2.out) ((Below.refl _ _).alloc (Nat.le_refl _) _)
          have HW2 : Hid (Below w1.heap.size w1 (w2.alloc (.cells #[.bool b, .string m] 96))) := (HW.out.trans (HB2.out.mono hww)).alloc (by omega) _
          go_wp2_with (at_builtin; (refine app_num (w0 := w1) w1.heap.size rfl _ _ rfl _ n b m HI2.out (w2.heap.size + 1) (by simp) rfl rfl HW2.out (by simp; omega) (by omega) ?_); intro v1 w3 hown1 hbel1; have HI3 := Lib.hid hown1; have HW3 := Lib.hid hbel1; clear hown1 hbel1)
          go_roundw
          case rel => exact ⟨k + 1, n + 1, by go_num, by omega, by omega, HI3, take_allB HA.out hlt (by rw [← HXE.out]; exact HNU.out), HW3⟩
          case measure => simp [intOf]; omega
      · obtain rfl : k = P.length := by omega
        go_wp2_with fail
        go_ret2
        refine ⟨_, by rw [HOK.out]; have := HA.out; rw [List.take_length] at this; rw [this]; rfl, ?_⟩
        exact HB.out.trans (HW.out.mono HB.out.size)
end Go.Proofs.YtoofphhfealcaaaGreatDoor

namespace Go.Proofs.YtoofphhfealcaaaGreatDoor
open Go.RowKit
theorem inf98 : (Tryz.prog.info? 98).map (·.size) = some 4 := by kernel_rfl
theorem und98 : ∃ d, Tryz.prog.underlying 98 = some d ∧ d.isRow = true := row_of (by kernel_rfl)
/-- The result's block, four cells, and what is kept. -/
structure RsW (w wx : World) (T : TypeId) (a b c d : Value) : Prop where
  blk : wx.heap[w.heap.size]? = some (.cells #[a, b, c, d] T (0, 0))
  below : Below w.heap.size w wx
  lt : w.heap.size < wx.heap.size
theorem rsW_start (w : World) (T : TypeId) (a b c d : Value) : RsW w (w.alloc (.cells #[a, b, c, d] T)) T a b c d := ⟨heap_alloc_new w _, (Below.refl _ _).alloc (Nat.le_refl _) _, by simp⟩
theorem rsW_step {w W W1 : World} {T : TypeId} {a b c d : Value} (h : RsW w W T a b c d) (hb : Below W.heap.size W W1) : RsW w W1 T a b c d :=
  ⟨by rw [hb.block _ h.lt]; exact h.blk, h.below.trans (hb.mono (by have := h.lt; omega)), Nat.lt_of_lt_of_le h.lt hb.size⟩
theorem rsW_cells {w W : World} {T : TypeId} {a b c d : Value} (h : RsW w W T a b c d) : W.cell? ⟨w.heap.size, 0, none⟩ = some a ∧ W.cell? ⟨w.heap.size, 1, none⟩ = some b ∧ W.cell? ⟨w.heap.size, 2, none⟩ = some c ∧ W.cell? ⟨w.heap.size, 3, none⟩ = some d ∧
    W.frozen? ⟨w.heap.size, 0, none⟩ = false ∧ W.frozen? ⟨w.heap.size, 1, none⟩ = false ∧ W.frozen? ⟨w.heap.size, 2, none⟩ = false ∧ W.frozen? ⟨w.heap.size, 3, none⟩ = false := by
  refine ⟨?_, ?_, ?_, ?_, frozen_of_row _ _ _ _ _ h.blk, frozen_of_row _ _ _ _ _ h.blk, frozen_of_row _ _ _ _ _ h.blk, frozen_of_row _ _ _ _ _ h.blk⟩ <;> (rw [cell_of_row _ _ _ _ _ _ h.blk]; rfl)
theorem rsW_set {w W : World} {T : TypeId} {a b c d a' b' c' d' : Value} (h : RsW w W T a b c d) (o : Nat) (v : Value) (e : #[a', b', c', d'] = #[a, b, c, d].setIfInBounds o v) : RsW w (W.setCell ⟨w.heap.size, o, none⟩ v) T a' b' c' d' :=
  ⟨by rw [e]; exact heap_setCell_at W _ o v _ T (0, 0) h.blk, h.below.setCell (Nat.le_refl _) v, by simpa using h.lt⟩
theorem rsW_drewN {w W : World} {T : TypeId} {a b c d : Value} (h : RsW w W T a b c d) (n : Nat) : RsW w (W.drewN n) T a b c d := ⟨h.blk, bl_drewN h.below n, h.lt⟩
def debOK (s : ByteArray) : Bool := !(bs (trimB s)).contains 58 || isNum (bareL (bs (trimB s)))
def AggBPost (w : World) (ok : Bool) (e : Ending) (w' : World) : Prop := ∃ cs, e = .returned (.tuple #[.agg cs, .bool ok]) ∧ Below w.heap.size w w'
set_option maxRecDepth 100000 in
set_option maxHeartbeats 8000000 in
theorem debParse_any (s : ByteArray) (w : World) (hs : s.size ≤ 1048576) : Calls Tryz.prog 34 #[.string s] w (AggBPost w (debOK s)) := by
  obtain ⟨t, ht⟩ : ∃ t, t = trimB s := ⟨_, rfl⟩
  have hts : t.size ≤ s.size := by rw [ht]; exact trimB_size s
  have HDT := Lib.hid (fun W => debTrim_any s W hs)
  obtain ⟨ok, hok⟩ : ∃ ok, ok = debOK s := ⟨_, rfl⟩
  have hokt : ok = (!(bs t).contains 58 || isNum (bareL (bs t))) := by rw [hok, ht]; rfl
  rw [← ht] at HDT
  rw [← hok]
  have HOK := Lib.hid hokt
  clear ht hok hokt
  have HI : Hid (∀ W, Calls Tryz.prog 18 #[.string t, .int .u8 58] W fun e w' => (∃ k : Int, e = .returned (.int .i64 k) ∧ IdxR 58 (bs t) k) ∧ W = w') := fun W => indexOf_any t 58 W (by omega)
  have HL : Hid (∀ (u : ByteArray) W, u.size ≤ 1048576 → Calls Tryz.prog 65 #[.string u, .int .u8 45] W fun e w' => (∃ k : Int, e = .returned (.int .i64 k) ∧ (k = -1 ∨ ∃ i : Nat, k = i ∧ i < u.size)) ∧ W = w') := fun u W h => lastOf_any u 45 W h
  obtain ⟨dd, hd1, hd2⟩ := und98
  go_enter Tryz.func34, Tryz.ntmps34
  go_upto_region 3 with (first
    | (go_at_call 19; refine (HDT.out _).mono ?_; rintro e w' ⟨rfl, rfl⟩)
    | (go_at_call 18; refine (HI.out _).mono ?_; rintro e w' ⟨⟨k, rfl, hk⟩, rfl⟩; have HK := Lib.hid hk; clear hk))
  have HR0 : Hid (RsW w (w.alloc (.cells #[.bool false, .string ⟨#[]⟩, .string ⟨#[]⟩, .string ⟨#[]⟩] 98)) 98 (.bool false) (.string ⟨#[]⟩) (.string ⟨#[]⟩) (.string ⟨#[]⟩)) := rsW_start w 98 _ _ _ _
  generalize w.alloc (.cells #[.bool false, .string ⟨#[]⟩, .string ⟨#[]⟩, .string ⟨#[]⟩] 98) = w0 at HR0 ⊢
  go_upto_if 11 with fail
  go_cut [0, 3] from 11 to 26 (fun sv kv wx => ∃ (u m : ByteArray) (b b2 : Bool), sv = .string u ∧ kv = .bool b2 ∧ u.size ≤ 1048576 ∧ Hid (RsW w wx 98 (.bool b) (.string m) (.string ⟨#[]⟩) (.string ⟨#[]⟩)) ∧ Hid (ok = true))
  case first =>
    clear HL HDT HI
    rcases HK.out with ⟨rfl, hn⟩ | ⟨i, rfl, hi⟩
    · have HO : Hid (ok = true) := by
        show _ = _
        rw [HOK.out]
        have : (bs t).contains 58 = false := by
          rw [Bool.eq_false_iff]
          intro h
          rw [List.contains_iff_mem] at h
          exact hn h
        rw [this]
        rfl
      clear hn HK
      go_wp2_with fail
      go_meet
      exact ⟨t, _, _, _, rfl, rfl, by omega, HR0.out, HO.out⟩
    · have hlt := hi.lt
      rw [bs_len] at hlt
      have HN : Hid (ok = isNum (bs (t.extract 0 i))) := by
        show _ = _
        rw [HOK.out]
        have h1 : (bs t).contains 58 = true := by
          rw [List.contains_iff_mem, ← hi.eq]
          exact List.getElem_mem _
        rw [h1, bare_first hi, bs_extract]
        simp
      have hes : (t.extract 0 i).size ≤ 1048576 := by simp; omega
      clear hi HK HOK
      have hcs := rsW_cells HR0.out
      cases hnum : isNum (bs (t.extract 0 i)) <;> have HNU := Lib.hid hnum <;> clear hnum
      · go_wp2_with (go_at_call 64; refine (number_any (t.extract 0 i) _ hes).mono ?_; rintro e w2 ⟨b, m, rfl, hB2⟩; have HR2 := Lib.hid (rsW_step HR0.out hB2); obtain ⟨c0, c1, c2, c3, f0, f1, f2, f3⟩ := rsW_cells HR2.out; clear hB2; rw [HNU.out])
        have HRF := Lib.hid (rsW_set (rsW_set (rsW_set (rsW_set (rsW_set (rsW_set HR2.out 0 (.bool b) rfl) 1 (.string m) rfl) 0 (.bool false) rfl) 1 (.string ⟨#[]⟩) rfl) 2 (.string ⟨#[]⟩) rfl) 3 (.string ⟨#[]⟩) rfl)
        have HF : Hid (ok = false) := by show _ = _; rw [HN.out]; exact HNU.out
        refine bodyPost_ret (res_cell2 Tryz.results34 rfl HRF.out.blk rfl hd1 hd2 inf98) rfl ?_
        exact ⟨_, by rw [HF.out]; rfl, HRF.out.below⟩
      · go_wp2_with (go_at_call 64; refine (number_any (t.extract 0 i) _ hes).mono ?_; rintro e w2 ⟨b, m, rfl, hB2⟩; have HR2 := Lib.hid (rsW_step HR0.out hB2); obtain ⟨c0, c1, c2, c3, f0, f1, f2, f3⟩ := rsW_cells HR2.out; clear hB2; rw [HNU.out])
        go_meet
        exact ⟨_, m, b, true, rfl, rfl, by simp; omega, rsW_set (rsW_set HR2.out 0 (.bool b) rfl) 1 (.string m) rfl, by show _ = _; rw [HN.out]; exact HNU.out⟩
  case rest =>
    obtain ⟨u, m, b, b2, rfl, rfl, hu, HR, HO⟩ := hcut
    clear HI HDT HK HOK HR0
    obtain ⟨c0, c1, c2, c3, f0, f1, f2, f3⟩ := rsW_cells HR.out
    go_upto_region 9 with fail
    have HR1 : Hid (RsW w ((wc.setCell ⟨w.heap.size, 2, none⟩ (.string u)).setCell ⟨w.heap.size, 3, none⟩ (.string ⟨#[48]⟩)) 98 (.bool b) (.string m) (.string u) (.string ⟨#[48]⟩)) := rsW_set (rsW_set HR.out 2 (.string u) rfl) 3 (.string ⟨#[48]⟩) rfl
    generalize (wc.setCell ⟨w.heap.size, 2, none⟩ (.string u)).setCell ⟨w.heap.size, 3, none⟩ (.string ⟨#[48]⟩) = w3 at HR1 ⊢
    clear c0 c1 c2 c3 f0 f1 f2 f3 HR
    go_upto_region 10 with (go_at_call 65; refine (HL.out u _ hu).mono ?_; rintro e w' ⟨⟨k, rfl, hk⟩, rfl⟩; have HK := Lib.hid hk; clear hk)
    clear HL
    go_upto_if 33 with fail
    go_cut [0] from 33 to 42 (fun sv wx => sv = .string u ∧ Hid (∃ x y : ByteArray, RsW w wx 98 (.bool b) (.string m) (.string x) (.string y)))
    case first =>
      obtain ⟨c0, c1, c2, c3, f0, f1, f2, f3⟩ := rsW_cells HR1.out
      rcases HK.out with rfl | ⟨i, rfl, hi⟩
      · go_wp2_with fail
        go_meet
        exact ⟨rfl, _, _, HR1.out⟩
      · clear HK
        go_wp2_with fail
        go_region
        all_goals
          go_wp2_with fail
          go_meet
          exact ⟨rfl, _, _, rsW_drewN (rsW_set (rsW_set HR1.out 2 (.string (u.extract 0 i)) rfl) 3 (.string (u.extract (i + 1) u.size)) rfl) 1⟩
    case rest =>
      obtain ⟨rfl, x, y, hr⟩ := hcut
      obtain ⟨c0, c1, c2, c3, f0, f1, f2, f3⟩ := rsW_cells hr
      have HRR := Lib.hid hr
      clear hr
      go_wp2_with (refine wpList_load_mid rfl 98 _ rfl w.heap.size 0 rfl [.bool b, .string m, .string x, .string y] dd (range_blkW HRR.out.blk rfl) hd1 hd2 inf98 ?_)
      have HRF := Lib.hid (rsW_set (rsW_set (rsW_set (rsW_set HRR.out 0 (.bool b) rfl) 1 (.string m) rfl) 2 (.string x) rfl) 3 (.string y) rfl)
      refine bodyPost_ret (res_cell2 Tryz.results34 rfl HRF.out.blk rfl hd1 hd2 inf98) rfl ?_
      exact ⟨_, by rw [HO.out]; rfl, HRF.out.below⟩
end Go.Proofs.YtoofphhfealcaaaGreatDoor

namespace Go.Proofs.YtoofphhfealcaaaGreatDoor
open Go.RowKit
theorem inf102 : (Tryz.prog.info? 102).map (·.size) = some 4 := by kernel_rfl
theorem und102 : ∃ d, Tryz.prog.underlying 102 = some d ∧ d.isRow = true := row_of (by kernel_rfl)
def hackOK (s : ByteArray) : Bool := (Lib.trimPrefix (bs s) [118]).all dotDig
/-- Does the text begin with a v? -/
def vhead (s : ByteArray) : Bool := match bs s with | [] => false | c :: _ => c.toNat == 118
theorem vhead_e {s : ByteArray} (h : bs s = []) : vhead s = false := by unfold vhead; rw [h]
theorem vhead_p {s : ByteArray} (h : 0 < s.size) : vhead s = (((s[0]'h).toNat : Int) == 118) := by
  have hl := bs_len s
  have e := bs_get s 0 h
  unfold vhead
  cases hb : bs s with
  | nil => rw [hb] at hl; simp at hl; omega
  | cons x r =>
    simp only [hb, List.getElem_cons_zero] at e
    rw [e, Bool.eq_iff_iff]
    simp
    omega
theorem vhead_t {s : ByteArray} (h : vhead s = true) : 0 < s.size ∧ bs (s.extract 1 s.size) = Lib.trimPrefix (bs s) [118] := by
  have hl := bs_len s
  unfold vhead at h
  cases hb : bs s with
  | nil => rw [hb] at h; cases h
  | cons x r =>
    rw [hb] at h hl
    have hx : x = 118 := by apply UInt8.toNat_inj.1; simpa using h
    subst hx
    simp at hl
    have : r.length = s.size - 1 := by omega
    refine ⟨by omega, ?_⟩
    rw [bs_extract, hb]
    simp [Lib.trimPrefix, Lib.hasPrefix, List.take_of_length_le, this]
theorem vhead_f {s : ByteArray} (h : vhead s = false) : bs s = Lib.trimPrefix (bs s) [118] := by
  unfold vhead at h
  cases hb : bs s with
  | nil => rfl
  | cons x r =>
    rw [hb] at h
    have hx : ¬ (118 : UInt8) = x := by intro e; subst e; cases h
    simp [Lib.trimPrefix, Lib.hasPrefix, hx]
theorem piece_dig {t : ByteArray} {k : Nat} (h : ∀ j (hj : j < (bs t).length), j < k → dotDig (bs t)[j] = true) : ∀ x ∈ (cutBy (· == (46 : UInt8)) (bs (t.extract 0 k))).map mk, x.size ≤ t.size ∧ (bs x).all isDig = true := fun x hx => by
  rw [List.mem_map] at hx
  obtain ⟨l, h1, rfl⟩ := hx
  have h2 := cutBy_mem_len _ _ l h1
  have e : bs (t.extract 0 k) = (bs t).take k := by rw [bs_extract]; simp
  rw [e] at h1 h2
  have hl := bs_len t
  refine ⟨by rw [mk_size]; rw [List.length_take] at h2; omega, ?_⟩
  rw [List.all_eq_true]
  intro c hc
  have h3 : bs (mk l) = l := bs_mk l
  rw [h3] at hc
  obtain ⟨h4, h5⟩ := cutBy_mem _ _ l h1 c hc
  obtain ⟨j, hj, e2⟩ := List.mem_iff_getElem.1 h4
  rw [List.length_take] at hj
  rw [List.getElem_take] at e2
  have h6 := h j (by omega) (by omega)
  rw [e2] at h6
  simpa [dotDig, h5] using h6
theorem cell_heap {W W' : World} {g j : Nat} (h : W'.heap[g]? = W.heap[g]?) : W'.cell? ⟨g, j, none⟩ = W.cell? ⟨g, j, none⟩ := by
  simp [World.cell?, h]
theorem rsW_grown {w W W1 : World} {T : TypeId} {a b c d : Value} {row : Option Nat} (h : RsW w W T a b c d) (hg : W.grownBy W1 row) (hr : ∀ k, row = some k → w.heap.size < k) : RsW w W1 T a b c d :=
  ⟨by rw [hg.block _ h.lt (fun e => by have := hr _ e.symm; omega)]; exact h.blk,
   h.below.trans ⟨hg.os, hg.tape, hg.output, hg.size, fun k hk => hg.block k (by have := h.lt; omega) (fun e => by have := hr _ e.symm; omega)⟩, Nat.lt_of_lt_of_le h.lt hg.size⟩
/-- What the loop over the pieces has in hand. -/
structure LpS (w1 W2 wr : World) (g : Nat) (lv cv : Value) (n : Nat) (s : ByteArray) : Prop where
  rs : RsW w1 wr 102 lv cv (.string ⟨#[]⟩) (.string s)
  ints : Ints wr W2.heap.size cv n
  keep : wr.heap[g]? = W2.heap[g]?
  size : W2.heap.size ≤ wr.heap.size
theorem lpS_step {w1 W2 wr w' : World} {g n : Nat} {lv cv : Value} {s : ByteArray} (h : LpS w1 W2 wr g lv cv n s) (hg : g < W2.heap.size) (hb : Below wr.heap.size wr w') : LpS w1 W2 w' g lv cv n s :=
  ⟨rsW_step h.rs hb, ints_below h.ints hb, by rw [hb.block g (by have := h.size; omega)]; exact h.keep, Nat.le_trans h.size hb.size⟩
theorem lpS_app {w1 W2 W w6 : World} {g n n' : Nat} {lv cv cv' : Value} {s : ByteArray} (h : LpS w1 W2 W g lv cv n s) (hg : g < W2.heap.size) (h12 : w1.heap.size < W2.heap.size) (hgn : g ≠ w1.heap.size) (hi : Ints w6 W2.heap.size cv' n') (hgr : W.grownBy w6 cv.ownBlock) :
    LpS w1 W2 (w6.setCell ⟨w1.heap.size, 1, none⟩ cv') g lv cv' n' s := by
  obtain ⟨xs, hx⟩ := h.ints
  obtain ⟨ys, hy⟩ := hi
  have hb := own_base hx
  have hr1 := rsW_grown h.rs hgr (fun k e => by have := hb k e; omega)
  refine ⟨rsW_set hr1 1 cv' rfl, ⟨ys, ownsRow_setCell_other hy (fun e => by have h9 := own_base hy _ e; simp at h9; omega) _⟩, ?_, by simpa using Nat.le_trans h.size hgr.size⟩
  have e1 : (w6.setCell ⟨w1.heap.size, 1, none⟩ cv').heap[g]? = w6.heap[g]? := (grown_setCell w6 w1.heap.size 1 cv').block g (by have := h.size; have := hgr.size; omega) (fun e => hgn (Option.some.inj e))
  rw [e1, hgr.block g (by have := h.size; omega) (fun e => by have := hb _ e.symm; omega)]
  exact h.keep
theorem lpS_drew {w1 W2 wr : World} {g n : Nat} {lv cv : Value} {s : ByteArray} (h : LpS w1 W2 wr g lv cv n s) : LpS w1 W2 wr.drew g lv cv n s :=
  ⟨rsW_drewN h.rs 1, by obtain ⟨xs, hx⟩ := h.ints; exact ⟨xs, hx⟩, h.keep, h.size⟩
theorem lpS_alloc {w1 W2 wr : World} {g n : Nat} {lv cv : Value} {s : ByteArray} (h : LpS w1 W2 wr g lv cv n s) (hg : g < W2.heap.size) (ob : Obj) : LpS w1 W2 (wr.alloc ob) g lv cv n s := lpS_step h hg ((Below.refl _ _).alloc (Nat.le_refl _) ob)
theorem ints_slice {w : World} {base n : Nat} {v : Value} (h : Ints w base v n) : ∃ p c, v = .slice p n c := by
  obtain ⟨xs, h⟩ := h
  exact row_slice h
section
variable {ops : Array Oper} {o : Oper} {a : Act} {W : World} {K : Act → World → Prop} {Q : Exit → Act → World → Prop} {E : Prop}
/-- append of one number, in a region that draws. -/
theorem step_num (base : Nat) (hgd : o.guard = none) (sl x : Operand)
    (ho : o.op = .call { callee := .builtin .append, args := #[sl, x], argTypes := #[92, 92] })
    (v : Value) (n : Nat) (g2 : Nat) (y1 y2 : Value) (HO : Ints W base v n) (hs : a.eval sl = v) (hx : a.eval x = .slice (some ⟨g2, 0, none⟩) 1 1) (hc : W.heap[g2]? = some (.cells #[y1, y2] 96)) (h1 : y1.oneCell' = true) (h2 : y2.oneCell' = true)
    (hbase : base ≤ W.heap.size) (hl : n ≤ 1099511627776)
    (h : ∀ v1 w1, Ints w1 base v1 (n + 1) → W.grownBy w1 v.ownBlock → K (a.put o.dst v1) w1) :
    if Region.wanted o (yielded ops a.tmps) = true then Oper.wp Tryz.prog o a W K Q else E := by
  obtain ⟨xs, HO⟩ := HO
  obtain ⟨i, hi, hzz⟩ := Option.map_eq_some_iff.1 info96
  simp only [Prod.mk.injEq] at hzz
  obtain ⟨z1, z2, z3⟩ := hzz
  exact step_append_lies W hgd sl x 92 ho base 96 i _ 2 24 und92 hi z1 z2 z3 rfl (by omega) v n xs hs HO ⟨g2, 0, none⟩ 1 1 [y1, y2] hx rfl
    (World.news_of_block (cs := #[y1, y2]) (t := 96) (fr := (0, 0)) hc) (by intro u hu; simp only [List.mem_cons, List.mem_nil_iff, or_false] at hu; rcases hu with rfl | rfl <;> assumption) (by omega) (by unfold maxLen; omega) (by omega) hbase _ rfl
    fun g cap w' ha hb _ _ => h _ _ ⟨_, ha⟩ hb
end
def LikeP2 (w : World) (ok : Bool) (e : Ending) (w' : World) : Prop := ∃ lv p n c bld org, e = .returned (.agg #[.bool lv, .slice p n c, .string bld, .string org]) ∧ (bs bld = [] ↔ ok = true) ∧ Below w.heap.size w w'
theorem bld_iff {t : ByteArray} {k : Nat} (hk : k ≤ t.size) (h : ∀ j (hj : j < (bs t).length), j < k → dotDig (bs t)[j] = true) (hs : ∀ hk : k < t.size, dotDig (t[k]'hk) = false) : bs (t.extract k t.size) = [] ↔ (bs t).all dotDig = true := by
  have hl := bs_len t
  have hz : (t.extract k t.size).size = t.size - k := by simp
  have hb := bs_len (t.extract k t.size)
  constructor
  · intro h2
    rw [h2] at hb
    simp at hb
    rw [List.all_eq_true]
    intro c hc
    obtain ⟨j, hj, rfl⟩ := List.mem_iff_getElem.1 hc
    exact h j hj (by omega)
  · intro h2
    by_cases hlt : k < t.size
    · exfalso
      have h3 := hs hlt
      rw [List.all_eq_true] at h2
      have h4 := h2 _ (List.getElem_mem (l := bs t) (n := k) (by omega))
      rw [← bs_get t k hlt, h3] at h4
      cases h4
    · apply List.eq_nil_of_length_eq_zero
      omega
set_option maxRecDepth 100000 in
set_option maxHeartbeats 8000000 in
theorem like_any (s : ByteArray) (w : World) (hs : s.size ≤ 1048576) : Calls Tryz.prog 66 #[.string s] w (LikeP2 w (hackOK s)) := by
  obtain ⟨ok, hok⟩ : ∃ ok, ok = hackOK s := ⟨_, rfl⟩
  rw [← hok]
  have HOK := Lib.hid hok
  clear hok
  obtain ⟨dd, hd1, hd2⟩ := und102
  go_enter Tryz.func66, Tryz.ntmps66
  go_upto_region 2 with fail
  obtain ⟨w1, hw1⟩ : ∃ w1, w1 = w.alloc (.cells #[.bool false, .slice none 0 0, .string ⟨#[]⟩, .string ⟨#[]⟩] 102) := ⟨_, rfl⟩
  have hz : w.heap.size + 1 = w1.heap.size := by rw [hw1]; simp
  have HR1 : Hid (RsW w w1 102 (.bool false) (.slice none 0 0) (.string ⟨#[]⟩) (.string ⟨#[]⟩)) := by rw [hw1]; exact rsW_start w 102 _ _ _ _
  rw [hz, ← hw1]
  have HR : Hid (RsW w1 (w1.alloc (.cells #[.bool false, .slice none 0 0, .string ⟨#[]⟩, .string s] 102)) 102 (.bool false) (.slice none 0 0) (.string ⟨#[]⟩) (.string s)) := rsW_start w1 102 _ _ _ _
  generalize w1.alloc (.cells #[.bool false, .slice none 0 0, .string ⟨#[]⟩, .string s] 102) = W at HR ⊢
  clear hw1
  go_cut [15] from 9 to 15 (fun bv wx => bv = .bool (vhead s) ∧ wx = W)
  case first =>
    rcases ise_dec s with ⟨hse, hsb⟩ | ⟨hse, hsb⟩
    · have hse' : (s.toList == []) = true := by simpa using hse
      have HH := Lib.hid (vhead_e hsb)
      clear hsb
      go_wp2_with fail
      go_meet
      exact ⟨by rw [HH.out], rfl⟩
    · have hse' : (s.toList == []) = false := by rw [beq_eq_false_iff_ne, toList_bs]; exact hsb
      have h0 : 0 < s.size := by rw [← bs_len s]; exact List.length_pos_iff.2 hsb
      have HH := Lib.hid (vhead_p h0)
      clear hsb
      go_wp2_with fail
      go_meet
      exact ⟨by rw [HH.out], rfl⟩
  case rest =>
    obtain ⟨rfl, rfl⟩ := hcut
    obtain ⟨vh, hvh⟩ : ∃ vh, vh = vhead s := ⟨_, rfl⟩
    rw [← hvh]
    have HV := Lib.hid hvh
    clear hvh
    go_upto_if 15 with fail
    go_cut [0] from 15 to 18 (fun sv wx => ∃ (t : ByteArray) (b : Bool), sv = .string t ∧ t.size ≤ s.size ∧ Hid (ok = (bs t).all dotDig) ∧ Hid (RsW w1 wx 102 (.bool b) (.slice none 0 0) (.string ⟨#[]⟩) (.string s)))
    case first =>
      cases vh
      · have HT : Hid (ok = (bs s).all dotDig) := by show _ = _; rw [HOK.out, vhead_f HV.out.symm]; rfl
        go_wp2_with fail
        go_meet
        exact ⟨s, false, rfl, Nat.le_refl _, HT, HR.out⟩
      · have hvt := vhead_t HV.out.symm
        have h0 := hvt.1
        have HT : Hid (ok = (bs (s.extract 1 s.size)).all dotDig) := by show _ = _; rw [HOK.out, hvt.2]; rfl
        obtain ⟨c0, c1, c2, c3, f0, f1, f2, f3⟩ := rsW_cells HR.out
        clear hvt
        go_wp2_with fail
        go_region
        all_goals
          go_wp2_with fail
          go_meet
          exact ⟨_, true, rfl, by simp, HT, by have := rsW_drewN (rsW_set HR.out 0 (.bool true) rfl) 1; exact this⟩
    case rest =>
      obtain ⟨t, b, rfl, ht, HO, HRb⟩ := hcut
      clear HR HV HOK
      go_upto_block 0 with fail
      go_cut [4] from 19 to 36 (fun i wx => ∃ k : Nat, i = .int .i64 k ∧ k ≤ t.size ∧ Hid (∀ j (hj : j < (bs t).length), j < k → dotDig (bs t)[j] = true) ∧ Hid (∀ hk : k < t.size, dotDig (t[k]'hk) = false) ∧ wx = wc)
      case first =>
        go_upto_region 5 with fail
        go_loopw [4] (fun i wr => ∃ k : Nat, i = .int .i64 k ∧ k ≤ t.size ∧ Hid (∀ j (hj : j < (bs t).length), j < k → dotDig (bs t)[j] = true) ∧ wr = wc) (fun i _ => t.size - (intOf i).toNat)
        case atStart => exact ⟨0, rfl, Nat.zero_le _, fun j _ h => absurd h (by omega), rfl⟩
        case round =>
          obtain ⟨k, rfl, hk, HK, rfl⟩ := hrel
          by_cases hlt : k < t.size
          · obtain ⟨c, hcc⟩ : ∃ c, c = t[k]'hlt := ⟨_, rfl⟩
            have HNX : dotDig c = true → Hid (∀ j (hj : j < (bs t).length), j < k + 1 → dotDig (bs t)[j] = true) := fun hp j hj h1 => by
              by_cases e : j = k
              · subst e; rw [← bs_get t j hlt, ← hcc]; exact hp
              · exact HK.out j hj (by omega)
            have HNX := Lib.hid HNX
            have HST : Hid (dotDig c = false → ∀ hk : k < t.size, dotDig (t[k]'hk) = false) := fun h hk => by rw [← hcc]; exact h
            cases hd : isDig c <;> have HD := Lib.hid hd <;> clear hd
            · cases hp : (c == (46 : UInt8)) <;> have HP := Lib.hid hp <;> clear hp
              · have HF := Lib.hid (HST.out (by unfold dotDig; rw [HD.out, HP.out]; rfl))
                have hcn : (((t[k]'hlt).toNat : Int) == 46) = false := by
                  rw [← hcc]
                  have := HP.out
                  rw [beq_eq_false_iff_ne] at this ⊢
                  intro e
                  exact this (UInt8.toNat_inj.1 (by simp; omega))
                clear HNX HST
                go_wp2_with (go_at_call 108; rw [← hcc]; refine (spDigit_any c _).mono ?_; rintro e w' ⟨rfl, rfl⟩; rw [HD.out])
                go_meet
                exact ⟨k, rfl, hk, HK, HF, rfl⟩
              · have HN := Lib.hid (HNX.out (by unfold dotDig; rw [HD.out, HP.out]; rfl))
                have hcn : (((t[k]'hlt).toNat : Int) == 46) = true := by
                  rw [← hcc]
                  have := HP.out
                  rw [beq_iff_eq] at this ⊢
                  subst this
                  rfl
                clear HNX HST
                go_wp2_with (go_at_call 108; rw [← hcc]; refine (spDigit_any c _).mono ?_; rintro e w' ⟨rfl, rfl⟩; rw [HD.out])
                go_roundw
                case rel => exact ⟨k + 1, by go_num, by omega, HN, by first | rfl | trivial⟩
                case measure => simp [intOf]; omega
            · have HN := Lib.hid (HNX.out (by unfold dotDig; rw [HD.out]; rfl))
              clear HNX HST
              go_wp2_with (go_at_call 108; rw [← hcc]; refine (spDigit_any c _).mono ?_; rintro e w' ⟨rfl, rfl⟩; rw [HD.out])
              go_roundw
              case rel => exact ⟨k + 1, by go_num, by omega, HN, by first | rfl | trivial⟩
              case measure => simp [intOf]; omega
          · obtain rfl : k = t.size := by omega
            go_wp2_with fail
            go_meet
            exact ⟨t.size, rfl, hk, HK, fun h => absurd h (by omega), rfl⟩
      case rest =>
        obtain ⟨k, rfl, hk, HK, HF, h⟩ := hcut
        obtain rfl := h.symm
        have hes : (t.extract 0 k).size ≤ 1048576 := by simp; omega
        obtain ⟨P, hP⟩ : ∃ P, P = (cutBy (· == (46 : UInt8)) (bs (t.extract 0 k))).map mk := ⟨_, rfl⟩
        have HPD : Hid (∀ x ∈ P, x.size ≤ 1048576 ∧ (bs x).all isDig = true) := fun x hx => by
          rw [hP] at hx
          have := piece_dig HK.out x hx
          exact ⟨by omega, this.2⟩
        have hpl : P.length ≤ t.size + 1 := by
          have := cutBy_len (· == (46 : UInt8)) (bs (t.extract 0 k))
          rw [bs_len] at this
          rw [hP]
          simp at this ⊢
          omega
        have hp0 : 0 < P.length := by rw [hP, List.length_map]; exact List.length_pos_iff.2 (cutBy_ne _ _)
        have HCP := cut_point (t.extract 0 k) wc hes
        rw [← hP] at HCP
        have HCP := Lib.hid HCP
        clear hP
        go_upto_region 9 with (go_at_call 62; refine HCP.out.mono ?_; rintro e w2 ⟨v, rfl, hS, hB⟩; obtain ⟨g, cap, rfl, hbg, hgw, hcell⟩ := strs_cells hS hp0; have HS := Lib.hid hcell; have HB := Lib.hid hB; clear hcell hS hB)
        have hwg : w1.heap.size < g := by have := HRb.out.lt; omega
        have hw12 : w1.heap.size < w2.heap.size := by omega
        have hgn : g ≠ w1.heap.size := by omega
        have HL0 : Hid (LpS w1 w2 w2 g (.bool b) (.slice none 0 0) 0 s) := ⟨rsW_step HRb.out HB.out, ints_nil _ _, rfl, Nat.le_refl _⟩
        clear HCP hes HRb HB
        go_loopw [6] (fun i wr => ∃ q n : Nat, i = .int .i64 q ∧ q ≤ P.length ∧ n ≤ q ∧ Hid (∃ cv, LpS w1 w2 wr g (.bool b) cv n s)) (fun i _ => P.length - (intOf i).toNat)
        case atStart => exact ⟨0, 0, rfl, Nat.zero_le _, Nat.le_refl _, _, HL0.out⟩
        case round =>
          obtain ⟨q, n, rfl, hq, hnq, HL⟩ := hrel
          obtain ⟨cv, hL⟩ := HL.out
          obtain ⟨p, c, rfl⟩ := ints_slice hL.ints
          have HLL := Lib.hid hL
          obtain ⟨c0, c1, c2, c3, f0, f1, f2, f3⟩ := rsW_cells hL.rs
          clear HL0 HL
          by_cases hlt : q < P.length
          · have hcq : wr.cell? ⟨g, q, none⟩ = some (.string (P[q]'hlt)) := by rw [cell_heap hL.keep]; exact HS.out q hlt
            obtain ⟨hxz, hxd⟩ := HPD.out _ (List.getElem_mem hlt)
            generalize (P[q]'hlt) = x at hcq hxz hxd
            have hwr := hL.size
            clear hL
            rcases ise_dec x with ⟨hse, hsb⟩ | ⟨hse, hsb⟩
            · have hse' : (x.toList == []) = true := by simpa using hse
              go_wp2_with fail
              go_roundw
              case rel => exact ⟨q + 1, n, by go_num, by omega, by omega, _, HLL.out⟩
              case measure => simp [intOf]; omega
            · have hse' : (x.toList == []) = false := by rw [beq_eq_false_iff_ne, toList_bs]; exact hsb
              clear hsb
              go_upto_region 12 with fail
              go_region_law (first
                | (refine step_num (base := w2.heap.size) rfl (.tmp 53) (.tmp 59) rfl _ n w3.heap.size (.bool false) (.string m) HL4.out.ints (by first | (simp [Act.eval]; done) | simp [Act.eval, Act.put]) (by first | (simp [Act.eval]; done) | simp [Act.eval, Act.put]) HN4.out rfl rfl HL4.out.size (by omega) ?_; intro v6 w6 hi6 hg6; obtain ⟨p6, c6, rfl⟩ := ints_slice hi6; have HI6 := Lib.hid hi6; have HG6 := Lib.hid hg6; have h6 := rsW_cells (rsW_grown HL4.out.rs hg6 (fun k e => by obtain ⟨zs, hzs⟩ := HL4.out.ints; have := own_base hzs k e; omega)); have g1 := h6.2.1; have g5 := h6.2.2.2.2.2.1; clear h6 hi6 hg6)
                | (go_simp; go_at_call 107; refine (intOf_any x _ hxz hxd).mono ?_; rintro e w3 ⟨m, rfl, hB3⟩; have HL3 := Lib.hid (lpS_step (lpS_drew HLL.out) hgw hB3); have HL4 := Lib.hid (lpS_alloc HL3.out hgw (.cells #[.bool false, .string m] 96)); have HN4 := Lib.hid (heap_alloc_new w3 (.cells #[.bool false, .string m] 96)); have d1 := (rsW_cells HL3.out.rs).2.1; have e1 := (rsW_cells HL4.out.rs).2.1; clear hB3))
              all_goals
                have HL6 : Hid (LpS w1 w2 (w6.setCell ⟨w1.heap.size, 1, none⟩ (.slice p6 (n + 1) c6)) g (.bool b) (.slice p6 (n + 1) c6) (n + 1) s) := lpS_app HL4.out hgw hw12 hgn HI6.out HG6.out
                clear HL3 HL4 HN4 d1 e1 HI6 HG6 g1 g5 HLL c0 c1 c2 c3 f0 f1 f2 f3 hcq hse hse'
                go_wp2_with fail
                go_roundw
                case rel => exact ⟨q + 1, n + 1, by go_num, by omega, by omega, _, HL6.out⟩
                case measure => simp [intOf]; omega
          · obtain rfl : q = P.length := by omega
            have HFI : Hid (bs (t.extract k t.size) = [] ↔ ok = true) := by
              show _ ↔ _
              rw [HO.out]
              exact bld_iff hk HK.out HF.out
            go_upto_region 14 with fail
            have HR3 : Hid (RsW w1 (wr.setCell ⟨w1.heap.size, 2, none⟩ (.string (t.extract k t.size))) 102 (.bool b) (.slice p n c) (.string (t.extract k t.size)) (.string s)) := rsW_set hL.rs 2 _ rfl
            clear hL HLL c0 c1 c2 c3 f0 f1 f2 f3
            generalize wr.setCell ⟨w1.heap.size, 2, none⟩ (.string (t.extract k t.size)) = w4 at HR3 ⊢
            generalize t.extract k t.size = bld at HR3 HFI ⊢
            have HR4 : Hid (RsW w w4 102 (.bool false) (.slice none 0 0) (.string ⟨#[]⟩) (.string ⟨#[]⟩)) := rsW_step HR1.out HR3.out.below
            obtain ⟨c0, c1, c2, c3, f0, f1, f2, f3⟩ := rsW_cells HR4.out
            go_wp2_with (refine wpList_load_mid rfl 102 _ rfl w1.heap.size 0 rfl [.bool b, .slice p n c, .string bld, .string s] dd (range_blkW HR3.out.blk rfl) hd1 hd2 inf102 ?_)
            have HRF := Lib.hid (rsW_set (rsW_set (rsW_set (rsW_set HR4.out 0 (.bool b) rfl) 1 (.slice p n c) rfl) 2 (.string bld) rfl) 3 (.string s) rfl)
            refine bodyPost_ret (res_cell1 Tryz.results66 rfl (range_blkW HRF.out.blk rfl) hd1 hd2 inf102) rfl ?_
            exact ⟨_, _, _, _, _, _, rfl, HFI.out, HRF.out.below⟩
set_option maxRecDepth 100000 in
set_option maxHeartbeats 4000000 in
theorem hackParse_any (s : ByteArray) (w : World) (hs : s.size ≤ 1048576) : Calls Tryz.prog 35 #[.string s] w (AggBPost w (hackOK s)) := by
  have HLK := Lib.hid (fun W => like_any s W hs)
  obtain ⟨ok, hok⟩ : ∃ ok, ok = hackOK s := ⟨_, rfl⟩
  rw [← hok] at HLK ⊢
  clear hok
  obtain ⟨dd, hd1, hd2⟩ := und102
  go_enter Tryz.func35, Tryz.ntmps35
  go_upto_region 1 with fail
  have HR0 : Hid (RsW w (w.alloc (.cells #[.bool false, .slice none 0 0, .string ⟨#[]⟩, .string ⟨#[]⟩] 102)) 102 (.bool false) (.slice none 0 0) (.string ⟨#[]⟩) (.string ⟨#[]⟩)) := rsW_start w 102 _ _ _ _
  generalize w.alloc (.cells #[.bool false, .slice none 0 0, .string ⟨#[]⟩, .string ⟨#[]⟩] 102) = w0 at HR0 ⊢
  go_upto_region 2 with (go_at_call 66; refine (HLK.out _).mono ?_; rintro e w2 ⟨lv, p, n, c, bld, org, rfl, hi, hB2⟩; have HI := Lib.hid hi; have HR2 := Lib.hid (rsW_step HR0.out hB2); obtain ⟨c0, c1, c2, c3, f0, f1, f2, f3⟩ := rsW_cells HR2.out; clear hi hB2)
  have HR3 := Lib.hid (rsW_set (rsW_set (rsW_set (rsW_set HR2.out 0 (.bool lv) rfl) 1 (.slice p n c) rfl) 2 (.string bld) rfl) 3 (.string org) rfl)
  generalize (((w2.setCell ⟨w.heap.size, 0, none⟩ (.bool lv)).setCell ⟨w.heap.size, 1, none⟩ (.slice p n c)).setCell ⟨w.heap.size, 2, none⟩ (.string bld)).setCell ⟨w.heap.size, 3, none⟩ (.string org) = w3 at HR3 ⊢
  clear c0 c1 c2 c3 f0 f1 f2 f3 HR2 HLK
  obtain ⟨c0, c1, c2, c3, f0, f1, f2, f3⟩ := rsW_cells HR3.out
  rcases ise_dec bld with ⟨hse, hsb⟩ | ⟨hse, hsb⟩
  · have hse' : (bld.toList == []) = true := by simpa using hse
    have HOK : Hid (ok = true) := HI.out.1 hsb
    clear hsb
    go_wp2_with (refine wpList_load_mid rfl 102 _ rfl w.heap.size 0 rfl [.bool lv, .slice p n c, .string bld, .string org] dd (range_blkW HR3.out.blk rfl) hd1 hd2 inf102 ?_)
    have HRF := Lib.hid (rsW_set (rsW_set (rsW_set (rsW_set HR3.out 0 (.bool lv) rfl) 1 (.slice p n c) rfl) 2 (.string bld) rfl) 3 (.string org) rfl)
    refine bodyPost_ret (res_cell2 Tryz.results35 rfl HRF.out.blk rfl hd1 hd2 inf102) rfl ?_
    exact ⟨_, by rw [HOK.out]; rfl, HRF.out.below⟩
  · have hse' : (bld.toList == []) = false := by rw [beq_eq_false_iff_ne, toList_bs]; exact hsb
    have HOK : Hid (ok = false) := by
      show _ = _
      cases ok
      · rfl
      · exact absurd (HI.out.2 rfl) hsb
    clear hsb
    go_wp2_with fail
    have HRF := Lib.hid (rsW_set (rsW_set (rsW_set (rsW_set HR3.out 0 (.bool false) rfl) 1 (.slice none 0 0) rfl) 2 (.string ⟨#[]⟩) rfl) 3 (.string ⟨#[]⟩) rfl)
    refine bodyPost_ret (res_cell2 Tryz.results35 rfl HRF.out.blk rfl hd1 hd2 inf102) rfl ?_
    exact ⟨_, by rw [HOK.out]; rfl, HRF.out.below⟩
end Go.Proofs.YtoofphhfealcaaaGreatDoor

namespace Go.Proofs.YtoofphhfealcaaaGreatDoor
open Go.RowKit
def okB (k : Nat) (s : ByteArray) : Bool := if k = 4 then crOK s else if k = 5 then debOK s else if k = 6 then hackOK s else true
def BoolPost (w : World) (b : Bool) (e : Ending) (w' : World) : Prop := e = .returned (.bool b) ∧ Below w.heap.size w w'
set_option maxRecDepth 100000 in
set_option maxHeartbeats 4000000 in
theorem ecoParsed_any (k : Nat) (s : ByteArray) (w : World) (hk : k ≤ 12) (hs : s.size ≤ 1048576) : Calls Tryz.prog 15 #[.int .i64 (k : Int), .string s] w (BoolPost w (decide (0 < k) && okB k s)) := by
  by_cases h4 : k = 4
  · subst h4
    have HC := Lib.hid (fun W => cranParse_any s W hs)
    have HO : Hid ((decide (0 < 4) && okB 4 s) = crOK s) := rfl
    go_enter Tryz.func15, Tryz.ntmps15
    go_wp2_with (go_at_call 33; refine (HC.out _).mono ?_; rintro e w1 ⟨v, rfl, hB⟩; have HB := Lib.hid hB; clear hB)
    go_ret
    exact ⟨by rw [HO.out]; rfl, HB.out⟩
  by_cases h5 : k = 5
  · subst h5
    have HC := Lib.hid (fun W => debParse_any s W hs)
    have HO : Hid ((decide (0 < 5) && okB 5 s) = debOK s) := rfl
    go_enter Tryz.func15, Tryz.ntmps15
    go_wp2_with (go_at_call 34; refine (HC.out _).mono ?_; rintro e w1 ⟨v, rfl, hB⟩; have HB := Lib.hid hB; clear hB)
    go_ret
    exact ⟨by rw [HO.out]; rfl, HB.out⟩
  by_cases h6 : k = 6
  · subst h6
    have HC := Lib.hid (fun W => hackParse_any s W hs)
    have HO : Hid ((decide (0 < 6) && okB 6 s) = hackOK s) := rfl
    go_enter Tryz.func15, Tryz.ntmps15
    go_wp2_with (go_at_call 35; refine (HC.out _).mono ?_; rintro e w1 ⟨v, rfl, hB⟩; have HB := Lib.hid hB; clear hB)
    go_ret
    exact ⟨by rw [HO.out]; rfl, HB.out⟩
  have e4 : ((k : Int) == 4) = false := by rw [beq_eq_false_iff_ne]; omega
  have e5 : ((k : Int) == 5) = false := by rw [beq_eq_false_iff_ne]; omega
  have e6 : ((k : Int) == 6) = false := by rw [beq_eq_false_iff_ne]; omega
  have e12 : (k : Int) ≤ 12 := by omega
  have HO : Hid ((decide (0 < k) && okB k s) = decide (0 < k)) := by show _ = _; simp [okB, h4, h5, h6]
  by_cases h0 : 0 < k
  · have e0 : (1 : Int) ≤ k := by omega
    clear h4 h5 h6
    go_enter Tryz.func15, Tryz.ntmps15
    go_wp2_with fail
    go_ret
    exact ⟨by rw [HO.out]; simp [h0], Below.refl _ _⟩
  · obtain rfl : k = 0 := by omega
    go_enter Tryz.func15, Tryz.ntmps15
    go_wp2_with fail
    go_ret
    exact ⟨by rw [HO.out]; rfl, Below.refl _ _⟩
theorem kindB_12 (l : List UInt8) : kindB l ≤ 12 := kindB_le l
/-- The reference's Ecosystem. -/
def SpEcoPost (w : World) (k : Nat) (ok : Bool) (e : Ending) (w' : World) : Prop := e = .returned (.tuple #[.int .i64 (if ok then (k : Int) else 0), .bool ok]) ∧ Below w.heap.size w w'
set_option maxRecDepth 100000 in
set_option maxHeartbeats 4000000 in
theorem spEco_any (name s : ByteArray) (w : World) (hn : name.size ≤ 1048576) (hs : s.size ≤ 1048576) : Calls Tryz.prog 8 #[.string name, .string s] w (SpEcoPost w (kindB (bareL (bs name))) (decide (0 < kindB (bareL (bs name))) && okB (kindB (bareL (bs name))) s)) := by
  have HK := Lib.hid (fun W => kindOf_any name W hn)
  have hle := kindB_le (bareL (bs name))
  generalize kindB (bareL (bs name)) = k at HK hle ⊢
  have HP := Lib.hid (fun W => ecoParsed_any k s W hle hs)
  generalize (decide (0 < k) && okB k s) = ok at HP ⊢
  cases ok
  · go_enter Tryz.func8, Tryz.ntmps8
    go_wp2_with (first
      | (go_at_call 10; refine (HK.out _).mono ?_; rintro e w1 ⟨rfl, hB⟩; have HB := Lib.hid hB; clear hB)
      | (go_at_call 15; refine (HP.out _).mono ?_; rintro e w2 ⟨rfl, hB⟩; have HB2 := Lib.hid hB; clear hB))
    go_ret2
    exact ⟨rfl, HB.out.trans (HB2.out.mono HB.out.size)⟩
  · go_enter Tryz.func8, Tryz.ntmps8
    go_wp2_with (first
      | (go_at_call 10; refine (HK.out _).mono ?_; rintro e w1 ⟨rfl, hB⟩; have HB := Lib.hid hB; clear hB)
      | (go_at_call 15; refine (HP.out _).mono ?_; rintro e w2 ⟨rfl, hB⟩; have HB2 := Lib.hid hB; clear hB))
    go_ret2
    exact ⟨rfl, HB.out.trans (HB2.out.mono HB.out.size)⟩
/-- What EcoKnown answers, and what then holds. -/
def EkPost (w : World) (P : Prop) (e : Ending) (w' : World) : Prop := ∃ b, e = .returned (.bool b) ∧ (b = true → P) ∧ Below w.heap.size w w'
set_option maxRecDepth 100000 in
set_option maxHeartbeats 4000000 in
theorem ecoKnown_any (name s : ByteArray) (w : World) (hn : name.size ≤ 1048576) (hs : s.size ≤ 1048576) : Calls Tryz.prog 6 #[.string name, .string s] w (EkPost w (kindB (bareL (bs name)) = 4 ∨ Asc (bs s))) := by
  have HK := Lib.hid (fun W => kindOf_any name W hn)
  have hle := kindB_le (bareL (bs name))
  generalize kindB (bareL (bs name)) = k at HK hle ⊢
  by_cases h4 : k = 4
  · subst h4
    have HC := Lib.hid (fun W => cranKnown_any s W hs)
    go_enter Tryz.func6, Tryz.ntmps6
    go_wp2_with (first
      | (go_at_call 10; refine (HK.out _).mono ?_; rintro e w1 ⟨rfl, hB⟩; have HB := Lib.hid hB; clear hB)
      | (go_at_call 11; refine (HC.out _).mono ?_; rintro e w2 ⟨⟨b, rfl, _⟩, rfl⟩))
    go_ret
    exact ⟨b, rfl, fun _ => .inl (by first | rfl | trivial), HB.out⟩
  by_cases h5 : k = 5
  · subst h5
    have HC := Lib.hid (fun W => debKnown_any s W hs)
    go_enter Tryz.func6, Tryz.ntmps6
    go_wp2_with (first
      | (go_at_call 10; refine (HK.out _).mono ?_; rintro e w1 ⟨rfl, hB⟩; have HB := Lib.hid hB; clear hB)
      | (go_at_call 12; refine (HC.out _).mono ?_; rintro e w2 ⟨⟨b, rfl, ha⟩, rfl⟩; have HA := Lib.hid ha; clear ha))
    go_ret
    exact ⟨b, rfl, fun h => .inr (asc_all (HA.out h)), HB.out⟩
  have e4 : ((k : Int) == 4) = false := by rw [beq_eq_false_iff_ne]; omega
  have e5 : ((k : Int) == 5) = false := by rw [beq_eq_false_iff_ne]; omega
  have HC := Lib.hid (fun W => ascii_any s W hs)
  clear h4 h5
  go_enter Tryz.func6, Tryz.ntmps6
  go_wp2_with (first
    | (go_at_call 10; refine (HK.out _).mono ?_; rintro e w1 ⟨rfl, hB⟩; have HB := Lib.hid hB; clear hB)
    | (go_at_call 13; refine (HC.out _).mono ?_; rintro e w2 ⟨rfl, rfl⟩))
  go_ret
  exact ⟨_, rfl, fun h => .inr (asc_all h), HB.out⟩
set_option maxRecDepth 100000 in
set_option maxHeartbeats 4000000 in
theorem short_any (x y : ByteArray) (g c : Nat) (w : World) (h0 : w.cell? ⟨g, 0, none⟩ = some (.string x)) (h1 : w.cell? ⟨g, 1, none⟩ = some (.string y)) (hx : x.size ≤ 4294967295) (hy : y.size ≤ 4294967295) :
    Calls Tryz.prog 5 #[.slice (some ⟨g, 0, none⟩) 2 c] w fun e w' => ∃ b, e = .returned (.bool b) ∧ (b = true → x.size ≤ 1200 ∧ y.size ≤ 1200) ∧ w = w' := by
  go_enter Tryz.func5, Tryz.ntmps5
  go_upto_region 2 with fail
  go_loopw [4, 7] (fun _ i wr => ∃ k : Nat, i = .int .i64 k ∧ k ≤ 2 ∧ Hid (0 < k → x.size ≤ 1200) ∧ Hid (1 < k → y.size ≤ 1200) ∧ w = wr) (fun _ i _ => 2 - (intOf i).toNat)
  case atStart => exact ⟨0, rfl, by omega, fun h => absurd h (by omega), fun h => absurd h (by omega), rfl⟩
  case round =>
    obtain ⟨k, rfl, hk, HX, HY, rfl⟩ := hrel
    match k, hk, HX, HY with
    | 0, hk, HX, HY =>
      by_cases hz : x.size ≤ 1200
      · have e : ¬ ((1200 : Int) < x.size) := by omega
        go_wp2_with fail
        go_roundw
        case rel => exact ⟨1, by go_num, by omega, fun _ => hz, fun h => absurd h (by omega), by first | rfl | trivial⟩
        case measure => simp [intOf]
      · have e : ((1200 : Int) < x.size) := by omega
        go_wp2_with fail
        go_ret
        refine ⟨false, rfl, ?_, rfl⟩
        intro h
        exact absurd h (by decide)
    | 1, hk, HX, HY =>
      by_cases hz : y.size ≤ 1200
      · have e : ¬ ((1200 : Int) < y.size) := by omega
        go_wp2_with fail
        go_roundw
        case rel => exact ⟨2, by go_num, by omega, fun _ => HX.out (by omega), fun _ => hz, by first | rfl | trivial⟩
        case measure => simp [intOf]
      · have e : ((1200 : Int) < y.size) := by omega
        go_wp2_with fail
        go_ret
        refine ⟨false, rfl, ?_, rfl⟩
        intro h
        exact absurd h (by decide)
    | 2, hk, HX, HY =>
      go_wp2_with fail
      go_ret
      exact ⟨true, rfl, fun _ => ⟨HX.out (by omega), HY.out (by omega)⟩, rfl⟩
end Go.Proofs.YtoofphhfealcaaaGreatDoor
