/-
  WALKS: Parse: which sort of version an ecosystem's name asks for.
-/
import Derived.Test.YtoofphhfealcaaaGreatDoorI5
import Derived.Test.YtoofphhfealcaaaGreatDoorJ7
namespace Go.Proofs.YtoofphhfealcaaaGreatDoor
open Go.RowKit

/-- The names of the ecosystems, each with its sort. -/
def ecoTab : List (List UInt8 × Nat) := [
  ([65, 108, 109, 97, 76, 105, 110, 117, 120], 1),
  ([65, 108, 112, 97, 113, 117, 105, 116, 97], 2),
  ([65, 108, 112, 105, 110, 101], 2),
  ([66, 101, 108, 108, 83, 111, 102, 116, 32, 72, 97, 114, 100, 101, 110, 101, 100, 32, 67, 111, 110, 116, 97, 105, 110, 101, 114, 115], 2),
  ([66, 105, 116, 110, 97, 109, 105], 3),
  ([66, 105, 111, 99, 111, 110, 100, 117, 99, 116, 111, 114], 3),
  ([67, 104, 97, 105, 110, 103, 117, 97, 114, 100], 2),
  ([67, 111, 110, 97, 110, 67, 101, 110, 116, 101, 114], 3),
  ([67, 82, 65, 78], 4),
  ([99, 114, 97, 116, 101, 115, 46, 105, 111], 3),
  ([68, 101, 98, 105, 97, 110], 5),
  ([68, 111, 99, 107, 101, 114, 32, 72, 97, 114, 100, 101, 110, 101, 100, 32, 73, 109, 97, 103, 101, 115], 3),
  ([71, 72, 67], 3),
  ([71, 111], 3),
  ([72, 97, 99, 107, 97, 103, 101], 6),
  ([72, 101, 120], 3),
  ([74, 117, 108, 105, 97], 3),
  ([77, 97, 103, 101, 105, 97], 1),
  ([77, 97, 118, 101, 110], 7),
  ([77, 105, 110, 105, 109, 79, 83], 2),
  ([110, 112, 109], 3),
  ([78, 117, 71, 101, 116], 8),
  ([111, 112, 101, 110, 69, 117, 108, 101, 114], 1),
  ([111, 112, 101, 110, 83, 85, 83, 69], 1),
  ([80, 97, 99, 107, 97, 103, 105, 115, 116], 9),
  ([80, 117, 98], 10),
  ([80, 121, 80, 73], 11),
  ([82, 101, 100, 32, 72, 97, 116], 1),
  ([82, 111, 99, 107, 121, 32, 76, 105, 110, 117, 120], 1),
  ([82, 117, 98, 121, 71, 101, 109, 115], 12),
  ([83, 85, 83, 69], 1),
  ([83, 119, 105, 102, 116, 85, 82, 76], 3),
  ([85, 98, 117, 110, 116, 117], 5),
  ([87, 111, 108, 102, 105], 2)]
/-- The sort of a bare name; 0: none. -/
def kindB (l : List UInt8) : Nat := match ecoTab.find? (fun p => l == p.1) with
  | some p => p.2
  | none => 0
/-- A name without what stands behind its first colon. -/
def bareL (l : List UInt8) : List UInt8 := l.takeWhile (· != 58)
/-- The type of a version of a sort. -/
def tyOf : Nat → TypeId
  | 1 => 39
  | 2 => 45
  | 3 => 51
  | 4 => 53
  | 5 => 55
  | 6 => 56
  | 7 => 59
  | 8 => 60
  | 9 => 62
  | 10 => 63
  | 11 => 67
  | 12 => 69
  | _ => 0

/-- A parser that hands back a version alone. -/
def RV (f : FuncId) (s : ByteArray) (a ae ai au : Addr) : Prop := ∀ W, Gt W a ae ai au → Calls Tryz.prog f #[.string s] W fun e w' => ∃ cs, e = .returned (.agg cs) ∧ Below W.heap.size W w'
/-- A parser that hands back a version and an error. -/
def RT (f : FuncId) (s : ByteArray) (a ae ai au : Addr) (er : Value) : Prop := ∀ W, Gt W a ae ai au → Calls Tryz.prog f #[.string s] W fun e w' => ∃ cs, e = .returned (.tuple #[.agg cs, er]) ∧ Below W.heap.size W w'
/-- What the parsers answer at a text; er: each sort's error. -/
structure POK (s : ByteArray) (a ae ai au : Addr) (er : Nat → Value) (k : Nat) : Prop where
  p1 : k = 1 → RV 21 s a ae ai au
  p2 : k = 2 → RT 22 s a ae ai au (er 2)
  p3 : k = 3 → RV 23 s a ae ai au
  p4 : k = 4 → RT 24 s a ae ai au (er 4)
  p5 : k = 5 → RT 25 s a ae ai au (er 5)
  p6 : k = 6 → RT 26 s a ae ai au (er 6)
  p7 : k = 7 → RV 27 s a ae ai au
  p8 : k = 8 → RV 28 s a ae ai au
  p9 : k = 9 → RV 29 s a ae ai au
  p10 : k = 10 → RV 30 s a ae ai au
  p11 : k = 11 → RT 31 s a ae ai au (er 11)
  p12 : k = 12 → RV 32 s a ae ai au
  e1 : ∀ k, k = 1 ∨ k = 3 ∨ k = 7 ∨ k = 8 ∨ k = 9 ∨ k = 10 ∨ k = 12 → er k = .nilIface
/-- What Parse answers. -/
def ParsePost (w : World) (au : Addr) (er : Nat → Value) (k : Nat) (e : Ending) (w' : World) : Prop :=
  ∃ v r, e = .returned (.tuple #[v, r]) ∧ ((k = 0 ∧ v = .nilIface ∧ r = .iface 364 (.pointer (some au))) ∨ (0 < k ∧ ∃ cs, v = .iface (tyOf k) (.agg cs) ∧ r = er k)) ∧ Below w.heap.size w w'

theorem take_while_all : ∀ l : List UInt8, (58 : UInt8) ∉ l → bareL l = l
  | [], _ => rfl
  | x :: r, h => by
    have hx : (x != 58) = true := by
      simp only [bne_iff_ne, ne_eq]
      intro e
      exact h (by simp [e])
    unfold bareL
    rw [List.takeWhile_cons, if_pos hx]
    have := take_while_all r (fun hm => h (by simp [hm]))
    unfold bareL at this
    rw [this]
theorem take_while_hit : ∀ (m r : List UInt8), (58 : UInt8) ∉ m → bareL (m ++ 58 :: r) = m
  | [], r, _ => by simp [bareL]
  | x :: m, r, h => by
    have hx : (x != 58) = true := by
      simp only [bne_iff_ne, ne_eq]
      intro e
      exact h (by simp [e])
    have := take_while_hit m r (fun hm => h (by simp [hm]))
    unfold bareL at this ⊢
    rw [List.cons_append, List.takeWhile_cons, if_pos hx, this]
set_option maxRecDepth 100000 in
set_option maxHeartbeats 8000000 in
theorem parse_any (s eco : ByteArray) (w : World) (a ae ai au : Addr) (er : Nat → Value) (hG : Gt w a ae ai au) (hP : POK s a ae ai au er (kindB (bareL (bs eco)))) (hs : eco.size ≤ 4294967295) : Calls Tryz.prog 14 #[.string s, .string eco] w (ParsePost w au er (kindB (bareL (bs eco)))) := by
  have HG := Lib.hid hG
  obtain ⟨b, hb⟩ : ∃ b : ByteArray, b = mk (bareL (bs eco)) := ⟨_, rfl⟩
  obtain ⟨k, hk⟩ : ∃ k : Nat, k = kindB (bs b) := ⟨_, rfl⟩
  have hkk : kindB (bareL (bs eco)) = k := by rw [hk, hb, bs_mk]
  rw [hkk] at hP ⊢
  have HP := Lib.hid hP
  have HB := Lib.hid hb
  have HK := Lib.hid hk
  clear hG hP hb hk hkk
  go_enter Tryz.func14, Tryz.ntmps14
  go_upto_if 11 with (go_at_call 20; refine (zzSplit_any eco 58 _ (by omega)).mono ?_; rintro e w1 ⟨v, rfl, hS, hB1⟩; obtain ⟨A, cp, rfl⟩ := strs_len hS; have HS := Lib.hid hS; have HB1 := Lib.hid hB1; clear hS hB1; generalize hpc : pieces 58 eco = pc at *; have HPC := Lib.hid hpc; clear hpc)
  go_cut [1] (fun v wx => v = .string b ∧ wx = w1)
  case first =>
    rcases first_or 58 (bs eco) with hn | ⟨i, hi⟩
    · have h1 := HPC.out
      rw [pieces_no hn] at h1
      subst h1
      have e1 : eco = b := by rw [HB.out, take_while_all _ hn, mk_bs]
      subst e1
      go_wp2_with fail
      go_meet
      exact ⟨rfl, rfl⟩
    · have hp := HPC.out
      rw [pieces_hit hi] at hp
      have hpr : 0 < (pieces 58 (eco.extract (i + 1) eco.size)).length := by
        have := cutBy_ne (· == (58 : UInt8)) (bs (eco.extract (i + 1) eco.size))
        unfold pieces
        rw [List.length_map]
        exact List.length_pos_iff.2 this
      generalize pieces 58 (eco.extract (i + 1) eco.size) = pr at hp hpr
      have e1 : eco.extract 0 i = b := by
        obtain ⟨f1, f2⟩ := first_split hi
        rw [HB.out, extract_mk]
        have h3 := take_while_hit ((bs eco).take i) ((bs eco).drop (i + 1)) f2
        rw [← f1] at h3
        rw [h3]
        simp
      have hpl : 1 < pc.length := by rw [← hp, List.length_cons]; omega
      have hp0 : pc[0]'(by omega) = b := by subst hp; exact e1
      obtain ⟨g, rfl, hc⟩ := strs_at HS.out (by omega)
      have hc0 := hc 0 (by omega)
      rw [hp0] at hc0
      have hlen : (1 : Int) < (pc.length : Int) := by omega
      clear hc e1 hp hp0 hpl hpr
      go_wp2_with fail
      go_meet
      exact ⟨rfl, rfl⟩
  case rest =>
    obtain ⟨rfl, rfl⟩ := hcut
    have HG2 := Lib.hid (gt_below HG.out HB1.out)
    clear HPC HS HB HG
    obtain ht | ht := Bool.eq_false_or_eq_true (b.toList == [65, 108, 109, 97, 76, 105, 110, 117, 120])
    · have hk : k = 1 := by rw [HK.out, ← toList_bs]; simp only [kindB, ecoTab, List.find?_cons, ht]
      have HK2 := Lib.hid hk
      clear hk
      go_wp2_with (go_at_call 21; refine (HP.out.p1 HK2.out _ HG2.out).mono ?_; rintro e w2 ⟨cs, rfl, hB2⟩; have HB2 := Lib.hid hB2; clear hB2)
      go_ret2
      exact ⟨_, _, rfl, .inr ⟨by rw [HK2.out]; decide, _, by rw [HK2.out]; rfl, (HP.out.e1 _ (by rw [HK2.out]; decide)).symm⟩, HB1.out.trans (HB2.out.mono HB1.out.size)⟩
    go_upto_region 7 with fail
    have HT0 := Lib.hid ht
    clear ht
    obtain ht | ht := Bool.eq_false_or_eq_true (b.toList == [65, 108, 112, 97, 113, 117, 105, 116, 97])
    · have hk : k = 2 := by rw [HK.out, ← toList_bs]; simp only [kindB, ecoTab, List.find?_cons, HT0.out, ht]
      have HK2 := Lib.hid hk
      clear hk
      go_wp2_with (go_at_call 22; refine (HP.out.p2 HK2.out _ HG2.out).mono ?_; rintro e w2 ⟨cs, rfl, hB2⟩; have HB2 := Lib.hid hB2; clear hB2)
      go_ret2
      exact ⟨_, _, rfl, .inr ⟨by rw [HK2.out]; decide, _, by rw [HK2.out]; rfl, by rw [HK2.out]; rfl⟩, HB1.out.trans (HB2.out.mono HB1.out.size)⟩
    go_upto_region 9 with fail
    have HT1 := Lib.hid ht
    clear ht
    obtain ht | ht := Bool.eq_false_or_eq_true (b.toList == [65, 108, 112, 105, 110, 101])
    · have hk : k = 2 := by rw [HK.out, ← toList_bs]; simp only [kindB, ecoTab, List.find?_cons, HT0.out, HT1.out, ht]
      have HK2 := Lib.hid hk
      clear hk
      go_wp2_with (go_at_call 22; refine (HP.out.p2 HK2.out _ HG2.out).mono ?_; rintro e w2 ⟨cs, rfl, hB2⟩; have HB2 := Lib.hid hB2; clear hB2)
      go_ret2
      exact ⟨_, _, rfl, .inr ⟨by rw [HK2.out]; decide, _, by rw [HK2.out]; rfl, by rw [HK2.out]; rfl⟩, HB1.out.trans (HB2.out.mono HB1.out.size)⟩
    go_upto_region 11 with fail
    have HT2 := Lib.hid ht
    clear ht
    obtain ht | ht := Bool.eq_false_or_eq_true (b.toList == [66, 101, 108, 108, 83, 111, 102, 116, 32, 72, 97, 114, 100, 101, 110, 101, 100, 32, 67, 111, 110, 116, 97, 105, 110, 101, 114, 115])
    · have hk : k = 2 := by rw [HK.out, ← toList_bs]; simp only [kindB, ecoTab, List.find?_cons, HT0.out, HT1.out, HT2.out, ht]
      have HK2 := Lib.hid hk
      clear hk
      go_wp2_with (go_at_call 22; refine (HP.out.p2 HK2.out _ HG2.out).mono ?_; rintro e w2 ⟨cs, rfl, hB2⟩; have HB2 := Lib.hid hB2; clear hB2)
      go_ret2
      exact ⟨_, _, rfl, .inr ⟨by rw [HK2.out]; decide, _, by rw [HK2.out]; rfl, by rw [HK2.out]; rfl⟩, HB1.out.trans (HB2.out.mono HB1.out.size)⟩
    go_upto_region 13 with fail
    have HT3 := Lib.hid ht
    clear ht
    obtain ht | ht := Bool.eq_false_or_eq_true (b.toList == [66, 105, 116, 110, 97, 109, 105])
    · have hk : k = 3 := by rw [HK.out, ← toList_bs]; simp only [kindB, ecoTab, List.find?_cons, HT0.out, HT1.out, HT2.out, HT3.out, ht]
      have HK2 := Lib.hid hk
      clear hk
      go_wp2_with (go_at_call 23; refine (HP.out.p3 HK2.out _ HG2.out).mono ?_; rintro e w2 ⟨cs, rfl, hB2⟩; have HB2 := Lib.hid hB2; clear hB2)
      go_ret2
      exact ⟨_, _, rfl, .inr ⟨by rw [HK2.out]; decide, _, by rw [HK2.out]; rfl, (HP.out.e1 _ (by rw [HK2.out]; decide)).symm⟩, HB1.out.trans (HB2.out.mono HB1.out.size)⟩
    go_upto_region 15 with fail
    have HT4 := Lib.hid ht
    clear ht
    obtain ht | ht := Bool.eq_false_or_eq_true (b.toList == [66, 105, 111, 99, 111, 110, 100, 117, 99, 116, 111, 114])
    · have hk : k = 3 := by rw [HK.out, ← toList_bs]; simp only [kindB, ecoTab, List.find?_cons, HT0.out, HT1.out, HT2.out, HT3.out, HT4.out, ht]
      have HK2 := Lib.hid hk
      clear hk
      go_wp2_with (go_at_call 23; refine (HP.out.p3 HK2.out _ HG2.out).mono ?_; rintro e w2 ⟨cs, rfl, hB2⟩; have HB2 := Lib.hid hB2; clear hB2)
      go_ret2
      exact ⟨_, _, rfl, .inr ⟨by rw [HK2.out]; decide, _, by rw [HK2.out]; rfl, (HP.out.e1 _ (by rw [HK2.out]; decide)).symm⟩, HB1.out.trans (HB2.out.mono HB1.out.size)⟩
    go_upto_region 17 with fail
    have HT5 := Lib.hid ht
    clear ht
    obtain ht | ht := Bool.eq_false_or_eq_true (b.toList == [67, 104, 97, 105, 110, 103, 117, 97, 114, 100])
    · have hk : k = 2 := by rw [HK.out, ← toList_bs]; simp only [kindB, ecoTab, List.find?_cons, HT0.out, HT1.out, HT2.out, HT3.out, HT4.out, HT5.out, ht]
      have HK2 := Lib.hid hk
      clear hk
      go_wp2_with (go_at_call 22; refine (HP.out.p2 HK2.out _ HG2.out).mono ?_; rintro e w2 ⟨cs, rfl, hB2⟩; have HB2 := Lib.hid hB2; clear hB2)
      go_ret2
      exact ⟨_, _, rfl, .inr ⟨by rw [HK2.out]; decide, _, by rw [HK2.out]; rfl, by rw [HK2.out]; rfl⟩, HB1.out.trans (HB2.out.mono HB1.out.size)⟩
    go_upto_region 19 with fail
    have HT6 := Lib.hid ht
    clear ht
    obtain ht | ht := Bool.eq_false_or_eq_true (b.toList == [67, 111, 110, 97, 110, 67, 101, 110, 116, 101, 114])
    · have hk : k = 3 := by rw [HK.out, ← toList_bs]; simp only [kindB, ecoTab, List.find?_cons, HT0.out, HT1.out, HT2.out, HT3.out, HT4.out, HT5.out, HT6.out, ht]
      have HK2 := Lib.hid hk
      clear hk
      go_wp2_with (go_at_call 23; refine (HP.out.p3 HK2.out _ HG2.out).mono ?_; rintro e w2 ⟨cs, rfl, hB2⟩; have HB2 := Lib.hid hB2; clear hB2)
      go_ret2
      exact ⟨_, _, rfl, .inr ⟨by rw [HK2.out]; decide, _, by rw [HK2.out]; rfl, (HP.out.e1 _ (by rw [HK2.out]; decide)).symm⟩, HB1.out.trans (HB2.out.mono HB1.out.size)⟩
    go_upto_region 21 with fail
    have HT7 := Lib.hid ht
    clear ht
    obtain ht | ht := Bool.eq_false_or_eq_true (b.toList == [67, 82, 65, 78])
    · have hk : k = 4 := by rw [HK.out, ← toList_bs]; simp only [kindB, ecoTab, List.find?_cons, HT0.out, HT1.out, HT2.out, HT3.out, HT4.out, HT5.out, HT6.out, HT7.out, ht]
      have HK2 := Lib.hid hk
      clear hk
      go_wp2_with (go_at_call 24; refine (HP.out.p4 HK2.out _ HG2.out).mono ?_; rintro e w2 ⟨cs, rfl, hB2⟩; have HB2 := Lib.hid hB2; clear hB2)
      go_ret2
      exact ⟨_, _, rfl, .inr ⟨by rw [HK2.out]; decide, _, by rw [HK2.out]; rfl, by rw [HK2.out]; rfl⟩, HB1.out.trans (HB2.out.mono HB1.out.size)⟩
    go_upto_region 23 with fail
    have HT8 := Lib.hid ht
    clear ht
    obtain ht | ht := Bool.eq_false_or_eq_true (b.toList == [99, 114, 97, 116, 101, 115, 46, 105, 111])
    · have hk : k = 3 := by rw [HK.out, ← toList_bs]; simp only [kindB, ecoTab, List.find?_cons, HT0.out, HT1.out, HT2.out, HT3.out, HT4.out, HT5.out, HT6.out, HT7.out, HT8.out, ht]
      have HK2 := Lib.hid hk
      clear hk
      go_wp2_with (go_at_call 23; refine (HP.out.p3 HK2.out _ HG2.out).mono ?_; rintro e w2 ⟨cs, rfl, hB2⟩; have HB2 := Lib.hid hB2; clear hB2)
      go_ret2
      exact ⟨_, _, rfl, .inr ⟨by rw [HK2.out]; decide, _, by rw [HK2.out]; rfl, (HP.out.e1 _ (by rw [HK2.out]; decide)).symm⟩, HB1.out.trans (HB2.out.mono HB1.out.size)⟩
    go_upto_region 25 with fail
    have HT9 := Lib.hid ht
    clear ht
    obtain ht | ht := Bool.eq_false_or_eq_true (b.toList == [68, 101, 98, 105, 97, 110])
    · have hk : k = 5 := by rw [HK.out, ← toList_bs]; simp only [kindB, ecoTab, List.find?_cons, HT0.out, HT1.out, HT2.out, HT3.out, HT4.out, HT5.out, HT6.out, HT7.out, HT8.out, HT9.out, ht]
      have HK2 := Lib.hid hk
      clear hk
      go_wp2_with (go_at_call 25; refine (HP.out.p5 HK2.out _ HG2.out).mono ?_; rintro e w2 ⟨cs, rfl, hB2⟩; have HB2 := Lib.hid hB2; clear hB2)
      go_ret2
      exact ⟨_, _, rfl, .inr ⟨by rw [HK2.out]; decide, _, by rw [HK2.out]; rfl, by rw [HK2.out]; rfl⟩, HB1.out.trans (HB2.out.mono HB1.out.size)⟩
    go_upto_region 27 with fail
    have HT10 := Lib.hid ht
    clear ht
    obtain ht | ht := Bool.eq_false_or_eq_true (b.toList == [68, 111, 99, 107, 101, 114, 32, 72, 97, 114, 100, 101, 110, 101, 100, 32, 73, 109, 97, 103, 101, 115])
    · have hk : k = 3 := by rw [HK.out, ← toList_bs]; simp only [kindB, ecoTab, List.find?_cons, HT0.out, HT1.out, HT2.out, HT3.out, HT4.out, HT5.out, HT6.out, HT7.out, HT8.out, HT9.out, HT10.out, ht]
      have HK2 := Lib.hid hk
      clear hk
      go_wp2_with (go_at_call 23; refine (HP.out.p3 HK2.out _ HG2.out).mono ?_; rintro e w2 ⟨cs, rfl, hB2⟩; have HB2 := Lib.hid hB2; clear hB2)
      go_ret2
      exact ⟨_, _, rfl, .inr ⟨by rw [HK2.out]; decide, _, by rw [HK2.out]; rfl, (HP.out.e1 _ (by rw [HK2.out]; decide)).symm⟩, HB1.out.trans (HB2.out.mono HB1.out.size)⟩
    go_upto_region 29 with fail
    have HT11 := Lib.hid ht
    clear ht
    obtain ht | ht := Bool.eq_false_or_eq_true (b.toList == [71, 72, 67])
    · have hk : k = 3 := by rw [HK.out, ← toList_bs]; simp only [kindB, ecoTab, List.find?_cons, HT0.out, HT1.out, HT2.out, HT3.out, HT4.out, HT5.out, HT6.out, HT7.out, HT8.out, HT9.out, HT10.out, HT11.out, ht]
      have HK2 := Lib.hid hk
      clear hk
      go_wp2_with (go_at_call 23; refine (HP.out.p3 HK2.out _ HG2.out).mono ?_; rintro e w2 ⟨cs, rfl, hB2⟩; have HB2 := Lib.hid hB2; clear hB2)
      go_ret2
      exact ⟨_, _, rfl, .inr ⟨by rw [HK2.out]; decide, _, by rw [HK2.out]; rfl, (HP.out.e1 _ (by rw [HK2.out]; decide)).symm⟩, HB1.out.trans (HB2.out.mono HB1.out.size)⟩
    go_upto_region 31 with fail
    have HT12 := Lib.hid ht
    clear ht
    obtain ht | ht := Bool.eq_false_or_eq_true (b.toList == [71, 111])
    · have hk : k = 3 := by rw [HK.out, ← toList_bs]; simp only [kindB, ecoTab, List.find?_cons, HT0.out, HT1.out, HT2.out, HT3.out, HT4.out, HT5.out, HT6.out, HT7.out, HT8.out, HT9.out, HT10.out, HT11.out, HT12.out, ht]
      have HK2 := Lib.hid hk
      clear hk
      go_wp2_with (go_at_call 23; refine (HP.out.p3 HK2.out _ HG2.out).mono ?_; rintro e w2 ⟨cs, rfl, hB2⟩; have HB2 := Lib.hid hB2; clear hB2)
      go_ret2
      exact ⟨_, _, rfl, .inr ⟨by rw [HK2.out]; decide, _, by rw [HK2.out]; rfl, (HP.out.e1 _ (by rw [HK2.out]; decide)).symm⟩, HB1.out.trans (HB2.out.mono HB1.out.size)⟩
    go_upto_region 33 with fail
    have HT13 := Lib.hid ht
    clear ht
    obtain ht | ht := Bool.eq_false_or_eq_true (b.toList == [72, 97, 99, 107, 97, 103, 101])
    · have hk : k = 6 := by rw [HK.out, ← toList_bs]; simp only [kindB, ecoTab, List.find?_cons, HT0.out, HT1.out, HT2.out, HT3.out, HT4.out, HT5.out, HT6.out, HT7.out, HT8.out, HT9.out, HT10.out, HT11.out, HT12.out, HT13.out, ht]
      have HK2 := Lib.hid hk
      clear hk
      go_wp2_with (go_at_call 26; refine (HP.out.p6 HK2.out _ HG2.out).mono ?_; rintro e w2 ⟨cs, rfl, hB2⟩; have HB2 := Lib.hid hB2; clear hB2)
      go_ret2
      exact ⟨_, _, rfl, .inr ⟨by rw [HK2.out]; decide, _, by rw [HK2.out]; rfl, by rw [HK2.out]; rfl⟩, HB1.out.trans (HB2.out.mono HB1.out.size)⟩
    go_upto_region 35 with fail
    have HT14 := Lib.hid ht
    clear ht
    obtain ht | ht := Bool.eq_false_or_eq_true (b.toList == [72, 101, 120])
    · have hk : k = 3 := by rw [HK.out, ← toList_bs]; simp only [kindB, ecoTab, List.find?_cons, HT0.out, HT1.out, HT2.out, HT3.out, HT4.out, HT5.out, HT6.out, HT7.out, HT8.out, HT9.out, HT10.out, HT11.out, HT12.out, HT13.out, HT14.out, ht]
      have HK2 := Lib.hid hk
      clear hk
      go_wp2_with (go_at_call 23; refine (HP.out.p3 HK2.out _ HG2.out).mono ?_; rintro e w2 ⟨cs, rfl, hB2⟩; have HB2 := Lib.hid hB2; clear hB2)
      go_ret2
      exact ⟨_, _, rfl, .inr ⟨by rw [HK2.out]; decide, _, by rw [HK2.out]; rfl, (HP.out.e1 _ (by rw [HK2.out]; decide)).symm⟩, HB1.out.trans (HB2.out.mono HB1.out.size)⟩
    go_upto_region 37 with fail
    have HT15 := Lib.hid ht
    clear ht
    obtain ht | ht := Bool.eq_false_or_eq_true (b.toList == [74, 117, 108, 105, 97])
    · have hk : k = 3 := by rw [HK.out, ← toList_bs]; simp only [kindB, ecoTab, List.find?_cons, HT0.out, HT1.out, HT2.out, HT3.out, HT4.out, HT5.out, HT6.out, HT7.out, HT8.out, HT9.out, HT10.out, HT11.out, HT12.out, HT13.out, HT14.out, HT15.out, ht]
      have HK2 := Lib.hid hk
      clear hk
      go_wp2_with (go_at_call 23; refine (HP.out.p3 HK2.out _ HG2.out).mono ?_; rintro e w2 ⟨cs, rfl, hB2⟩; have HB2 := Lib.hid hB2; clear hB2)
      go_ret2
      exact ⟨_, _, rfl, .inr ⟨by rw [HK2.out]; decide, _, by rw [HK2.out]; rfl, (HP.out.e1 _ (by rw [HK2.out]; decide)).symm⟩, HB1.out.trans (HB2.out.mono HB1.out.size)⟩
    go_upto_region 39 with fail
    have HT16 := Lib.hid ht
    clear ht
    obtain ht | ht := Bool.eq_false_or_eq_true (b.toList == [77, 97, 103, 101, 105, 97])
    · have hk : k = 1 := by rw [HK.out, ← toList_bs]; simp only [kindB, ecoTab, List.find?_cons, HT0.out, HT1.out, HT2.out, HT3.out, HT4.out, HT5.out, HT6.out, HT7.out, HT8.out, HT9.out, HT10.out, HT11.out, HT12.out, HT13.out, HT14.out, HT15.out, HT16.out, ht]
      have HK2 := Lib.hid hk
      clear hk
      go_wp2_with (go_at_call 21; refine (HP.out.p1 HK2.out _ HG2.out).mono ?_; rintro e w2 ⟨cs, rfl, hB2⟩; have HB2 := Lib.hid hB2; clear hB2)
      go_ret2
      exact ⟨_, _, rfl, .inr ⟨by rw [HK2.out]; decide, _, by rw [HK2.out]; rfl, (HP.out.e1 _ (by rw [HK2.out]; decide)).symm⟩, HB1.out.trans (HB2.out.mono HB1.out.size)⟩
    go_upto_region 41 with fail
    have HT17 := Lib.hid ht
    clear ht
    obtain ht | ht := Bool.eq_false_or_eq_true (b.toList == [77, 97, 118, 101, 110])
    · have hk : k = 7 := by rw [HK.out, ← toList_bs]; simp only [kindB, ecoTab, List.find?_cons, HT0.out, HT1.out, HT2.out, HT3.out, HT4.out, HT5.out, HT6.out, HT7.out, HT8.out, HT9.out, HT10.out, HT11.out, HT12.out, HT13.out, HT14.out, HT15.out, HT16.out, HT17.out, ht]
      have HK2 := Lib.hid hk
      clear hk
      go_wp2_with (go_at_call 27; refine (HP.out.p7 HK2.out _ HG2.out).mono ?_; rintro e w2 ⟨cs, rfl, hB2⟩; have HB2 := Lib.hid hB2; clear hB2)
      go_ret2
      exact ⟨_, _, rfl, .inr ⟨by rw [HK2.out]; decide, _, by rw [HK2.out]; rfl, (HP.out.e1 _ (by rw [HK2.out]; decide)).symm⟩, HB1.out.trans (HB2.out.mono HB1.out.size)⟩
    go_upto_region 43 with fail
    have HT18 := Lib.hid ht
    clear ht
    obtain ht | ht := Bool.eq_false_or_eq_true (b.toList == [77, 105, 110, 105, 109, 79, 83])
    · have hk : k = 2 := by rw [HK.out, ← toList_bs]; simp only [kindB, ecoTab, List.find?_cons, HT0.out, HT1.out, HT2.out, HT3.out, HT4.out, HT5.out, HT6.out, HT7.out, HT8.out, HT9.out, HT10.out, HT11.out, HT12.out, HT13.out, HT14.out, HT15.out, HT16.out, HT17.out, HT18.out, ht]
      have HK2 := Lib.hid hk
      clear hk
      go_wp2_with (go_at_call 22; refine (HP.out.p2 HK2.out _ HG2.out).mono ?_; rintro e w2 ⟨cs, rfl, hB2⟩; have HB2 := Lib.hid hB2; clear hB2)
      go_ret2
      exact ⟨_, _, rfl, .inr ⟨by rw [HK2.out]; decide, _, by rw [HK2.out]; rfl, by rw [HK2.out]; rfl⟩, HB1.out.trans (HB2.out.mono HB1.out.size)⟩
    go_upto_region 45 with fail
    have HT19 := Lib.hid ht
    clear ht
    obtain ht | ht := Bool.eq_false_or_eq_true (b.toList == [110, 112, 109])
    · have hk : k = 3 := by rw [HK.out, ← toList_bs]; simp only [kindB, ecoTab, List.find?_cons, HT0.out, HT1.out, HT2.out, HT3.out, HT4.out, HT5.out, HT6.out, HT7.out, HT8.out, HT9.out, HT10.out, HT11.out, HT12.out, HT13.out, HT14.out, HT15.out, HT16.out, HT17.out, HT18.out, HT19.out, ht]
      have HK2 := Lib.hid hk
      clear hk
      go_wp2_with (go_at_call 23; refine (HP.out.p3 HK2.out _ HG2.out).mono ?_; rintro e w2 ⟨cs, rfl, hB2⟩; have HB2 := Lib.hid hB2; clear hB2)
      go_ret2
      exact ⟨_, _, rfl, .inr ⟨by rw [HK2.out]; decide, _, by rw [HK2.out]; rfl, (HP.out.e1 _ (by rw [HK2.out]; decide)).symm⟩, HB1.out.trans (HB2.out.mono HB1.out.size)⟩
    go_upto_region 47 with fail
    have HT20 := Lib.hid ht
    clear ht
    obtain ht | ht := Bool.eq_false_or_eq_true (b.toList == [78, 117, 71, 101, 116])
    · have hk : k = 8 := by rw [HK.out, ← toList_bs]; simp only [kindB, ecoTab, List.find?_cons, HT0.out, HT1.out, HT2.out, HT3.out, HT4.out, HT5.out, HT6.out, HT7.out, HT8.out, HT9.out, HT10.out, HT11.out, HT12.out, HT13.out, HT14.out, HT15.out, HT16.out, HT17.out, HT18.out, HT19.out, HT20.out, ht]
      have HK2 := Lib.hid hk
      clear hk
      go_wp2_with (go_at_call 28; refine (HP.out.p8 HK2.out _ HG2.out).mono ?_; rintro e w2 ⟨cs, rfl, hB2⟩; have HB2 := Lib.hid hB2; clear hB2)
      go_ret2
      exact ⟨_, _, rfl, .inr ⟨by rw [HK2.out]; decide, _, by rw [HK2.out]; rfl, (HP.out.e1 _ (by rw [HK2.out]; decide)).symm⟩, HB1.out.trans (HB2.out.mono HB1.out.size)⟩
    go_upto_region 49 with fail
    have HT21 := Lib.hid ht
    clear ht
    obtain ht | ht := Bool.eq_false_or_eq_true (b.toList == [111, 112, 101, 110, 69, 117, 108, 101, 114])
    · have hk : k = 1 := by rw [HK.out, ← toList_bs]; simp only [kindB, ecoTab, List.find?_cons, HT0.out, HT1.out, HT2.out, HT3.out, HT4.out, HT5.out, HT6.out, HT7.out, HT8.out, HT9.out, HT10.out, HT11.out, HT12.out, HT13.out, HT14.out, HT15.out, HT16.out, HT17.out, HT18.out, HT19.out, HT20.out, HT21.out, ht]
      have HK2 := Lib.hid hk
      clear hk
      go_wp2_with (go_at_call 21; refine (HP.out.p1 HK2.out _ HG2.out).mono ?_; rintro e w2 ⟨cs, rfl, hB2⟩; have HB2 := Lib.hid hB2; clear hB2)
      go_ret2
      exact ⟨_, _, rfl, .inr ⟨by rw [HK2.out]; decide, _, by rw [HK2.out]; rfl, (HP.out.e1 _ (by rw [HK2.out]; decide)).symm⟩, HB1.out.trans (HB2.out.mono HB1.out.size)⟩
    go_upto_region 51 with fail
    have HT22 := Lib.hid ht
    clear ht
    obtain ht | ht := Bool.eq_false_or_eq_true (b.toList == [111, 112, 101, 110, 83, 85, 83, 69])
    · have hk : k = 1 := by rw [HK.out, ← toList_bs]; simp only [kindB, ecoTab, List.find?_cons, HT0.out, HT1.out, HT2.out, HT3.out, HT4.out, HT5.out, HT6.out, HT7.out, HT8.out, HT9.out, HT10.out, HT11.out, HT12.out, HT13.out, HT14.out, HT15.out, HT16.out, HT17.out, HT18.out, HT19.out, HT20.out, HT21.out, HT22.out, ht]
      have HK2 := Lib.hid hk
      clear hk
      go_wp2_with (go_at_call 21; refine (HP.out.p1 HK2.out _ HG2.out).mono ?_; rintro e w2 ⟨cs, rfl, hB2⟩; have HB2 := Lib.hid hB2; clear hB2)
      go_ret2
      exact ⟨_, _, rfl, .inr ⟨by rw [HK2.out]; decide, _, by rw [HK2.out]; rfl, (HP.out.e1 _ (by rw [HK2.out]; decide)).symm⟩, HB1.out.trans (HB2.out.mono HB1.out.size)⟩
    go_upto_region 53 with fail
    have HT23 := Lib.hid ht
    clear ht
    obtain ht | ht := Bool.eq_false_or_eq_true (b.toList == [80, 97, 99, 107, 97, 103, 105, 115, 116])
    · have hk : k = 9 := by rw [HK.out, ← toList_bs]; simp only [kindB, ecoTab, List.find?_cons, HT0.out, HT1.out, HT2.out, HT3.out, HT4.out, HT5.out, HT6.out, HT7.out, HT8.out, HT9.out, HT10.out, HT11.out, HT12.out, HT13.out, HT14.out, HT15.out, HT16.out, HT17.out, HT18.out, HT19.out, HT20.out, HT21.out, HT22.out, HT23.out, ht]
      have HK2 := Lib.hid hk
      clear hk
      go_wp2_with (go_at_call 29; refine (HP.out.p9 HK2.out _ HG2.out).mono ?_; rintro e w2 ⟨cs, rfl, hB2⟩; have HB2 := Lib.hid hB2; clear hB2)
      go_ret2
      exact ⟨_, _, rfl, .inr ⟨by rw [HK2.out]; decide, _, by rw [HK2.out]; rfl, (HP.out.e1 _ (by rw [HK2.out]; decide)).symm⟩, HB1.out.trans (HB2.out.mono HB1.out.size)⟩
    go_upto_region 55 with fail
    have HT24 := Lib.hid ht
    clear ht
    obtain ht | ht := Bool.eq_false_or_eq_true (b.toList == [80, 117, 98])
    · have hk : k = 10 := by rw [HK.out, ← toList_bs]; simp only [kindB, ecoTab, List.find?_cons, HT0.out, HT1.out, HT2.out, HT3.out, HT4.out, HT5.out, HT6.out, HT7.out, HT8.out, HT9.out, HT10.out, HT11.out, HT12.out, HT13.out, HT14.out, HT15.out, HT16.out, HT17.out, HT18.out, HT19.out, HT20.out, HT21.out, HT22.out, HT23.out, HT24.out, ht]
      have HK2 := Lib.hid hk
      clear hk
      go_wp2_with (go_at_call 30; refine (HP.out.p10 HK2.out _ HG2.out).mono ?_; rintro e w2 ⟨cs, rfl, hB2⟩; have HB2 := Lib.hid hB2; clear hB2)
      go_ret2
      exact ⟨_, _, rfl, .inr ⟨by rw [HK2.out]; decide, _, by rw [HK2.out]; rfl, (HP.out.e1 _ (by rw [HK2.out]; decide)).symm⟩, HB1.out.trans (HB2.out.mono HB1.out.size)⟩
    go_upto_region 57 with fail
    have HT25 := Lib.hid ht
    clear ht
    obtain ht | ht := Bool.eq_false_or_eq_true (b.toList == [80, 121, 80, 73])
    · have hk : k = 11 := by rw [HK.out, ← toList_bs]; simp only [kindB, ecoTab, List.find?_cons, HT0.out, HT1.out, HT2.out, HT3.out, HT4.out, HT5.out, HT6.out, HT7.out, HT8.out, HT9.out, HT10.out, HT11.out, HT12.out, HT13.out, HT14.out, HT15.out, HT16.out, HT17.out, HT18.out, HT19.out, HT20.out, HT21.out, HT22.out, HT23.out, HT24.out, HT25.out, ht]
      have HK2 := Lib.hid hk
      clear hk
      go_wp2_with (go_at_call 31; refine (HP.out.p11 HK2.out _ HG2.out).mono ?_; rintro e w2 ⟨cs, rfl, hB2⟩; have HB2 := Lib.hid hB2; clear hB2)
      go_ret2
      exact ⟨_, _, rfl, .inr ⟨by rw [HK2.out]; decide, _, by rw [HK2.out]; rfl, by rw [HK2.out]; rfl⟩, HB1.out.trans (HB2.out.mono HB1.out.size)⟩
    go_upto_region 59 with fail
    have HT26 := Lib.hid ht
    clear ht
    obtain ht | ht := Bool.eq_false_or_eq_true (b.toList == [82, 101, 100, 32, 72, 97, 116])
    · have hk : k = 1 := by rw [HK.out, ← toList_bs]; simp only [kindB, ecoTab, List.find?_cons, HT0.out, HT1.out, HT2.out, HT3.out, HT4.out, HT5.out, HT6.out, HT7.out, HT8.out, HT9.out, HT10.out, HT11.out, HT12.out, HT13.out, HT14.out, HT15.out, HT16.out, HT17.out, HT18.out, HT19.out, HT20.out, HT21.out, HT22.out, HT23.out, HT24.out, HT25.out, HT26.out, ht]
      have HK2 := Lib.hid hk
      clear hk
      go_wp2_with (go_at_call 21; refine (HP.out.p1 HK2.out _ HG2.out).mono ?_; rintro e w2 ⟨cs, rfl, hB2⟩; have HB2 := Lib.hid hB2; clear hB2)
      go_ret2
      exact ⟨_, _, rfl, .inr ⟨by rw [HK2.out]; decide, _, by rw [HK2.out]; rfl, (HP.out.e1 _ (by rw [HK2.out]; decide)).symm⟩, HB1.out.trans (HB2.out.mono HB1.out.size)⟩
    go_upto_region 61 with fail
    have HT27 := Lib.hid ht
    clear ht
    obtain ht | ht := Bool.eq_false_or_eq_true (b.toList == [82, 111, 99, 107, 121, 32, 76, 105, 110, 117, 120])
    · have hk : k = 1 := by rw [HK.out, ← toList_bs]; simp only [kindB, ecoTab, List.find?_cons, HT0.out, HT1.out, HT2.out, HT3.out, HT4.out, HT5.out, HT6.out, HT7.out, HT8.out, HT9.out, HT10.out, HT11.out, HT12.out, HT13.out, HT14.out, HT15.out, HT16.out, HT17.out, HT18.out, HT19.out, HT20.out, HT21.out, HT22.out, HT23.out, HT24.out, HT25.out, HT26.out, HT27.out, ht]
      have HK2 := Lib.hid hk
      clear hk
      go_wp2_with (go_at_call 21; refine (HP.out.p1 HK2.out _ HG2.out).mono ?_; rintro e w2 ⟨cs, rfl, hB2⟩; have HB2 := Lib.hid hB2; clear hB2)
      go_ret2
      exact ⟨_, _, rfl, .inr ⟨by rw [HK2.out]; decide, _, by rw [HK2.out]; rfl, (HP.out.e1 _ (by rw [HK2.out]; decide)).symm⟩, HB1.out.trans (HB2.out.mono HB1.out.size)⟩
    go_upto_region 63 with fail
    have HT28 := Lib.hid ht
    clear ht
    obtain ht | ht := Bool.eq_false_or_eq_true (b.toList == [82, 117, 98, 121, 71, 101, 109, 115])
    · have hk : k = 12 := by rw [HK.out, ← toList_bs]; simp only [kindB, ecoTab, List.find?_cons, HT0.out, HT1.out, HT2.out, HT3.out, HT4.out, HT5.out, HT6.out, HT7.out, HT8.out, HT9.out, HT10.out, HT11.out, HT12.out, HT13.out, HT14.out, HT15.out, HT16.out, HT17.out, HT18.out, HT19.out, HT20.out, HT21.out, HT22.out, HT23.out, HT24.out, HT25.out, HT26.out, HT27.out, HT28.out, ht]
      have HK2 := Lib.hid hk
      clear hk
      go_wp2_with (go_at_call 32; refine (HP.out.p12 HK2.out _ HG2.out).mono ?_; rintro e w2 ⟨cs, rfl, hB2⟩; have HB2 := Lib.hid hB2; clear hB2)
      go_ret2
      exact ⟨_, _, rfl, .inr ⟨by rw [HK2.out]; decide, _, by rw [HK2.out]; rfl, (HP.out.e1 _ (by rw [HK2.out]; decide)).symm⟩, HB1.out.trans (HB2.out.mono HB1.out.size)⟩
    go_upto_region 65 with fail
    have HT29 := Lib.hid ht
    clear ht
    obtain ht | ht := Bool.eq_false_or_eq_true (b.toList == [83, 85, 83, 69])
    · have hk : k = 1 := by rw [HK.out, ← toList_bs]; simp only [kindB, ecoTab, List.find?_cons, HT0.out, HT1.out, HT2.out, HT3.out, HT4.out, HT5.out, HT6.out, HT7.out, HT8.out, HT9.out, HT10.out, HT11.out, HT12.out, HT13.out, HT14.out, HT15.out, HT16.out, HT17.out, HT18.out, HT19.out, HT20.out, HT21.out, HT22.out, HT23.out, HT24.out, HT25.out, HT26.out, HT27.out, HT28.out, HT29.out, ht]
      have HK2 := Lib.hid hk
      clear hk
      go_wp2_with (go_at_call 21; refine (HP.out.p1 HK2.out _ HG2.out).mono ?_; rintro e w2 ⟨cs, rfl, hB2⟩; have HB2 := Lib.hid hB2; clear hB2)
      go_ret2
      exact ⟨_, _, rfl, .inr ⟨by rw [HK2.out]; decide, _, by rw [HK2.out]; rfl, (HP.out.e1 _ (by rw [HK2.out]; decide)).symm⟩, HB1.out.trans (HB2.out.mono HB1.out.size)⟩
    go_upto_region 67 with fail
    have HT30 := Lib.hid ht
    clear ht
    obtain ht | ht := Bool.eq_false_or_eq_true (b.toList == [83, 119, 105, 102, 116, 85, 82, 76])
    · have hk : k = 3 := by rw [HK.out, ← toList_bs]; simp only [kindB, ecoTab, List.find?_cons, HT0.out, HT1.out, HT2.out, HT3.out, HT4.out, HT5.out, HT6.out, HT7.out, HT8.out, HT9.out, HT10.out, HT11.out, HT12.out, HT13.out, HT14.out, HT15.out, HT16.out, HT17.out, HT18.out, HT19.out, HT20.out, HT21.out, HT22.out, HT23.out, HT24.out, HT25.out, HT26.out, HT27.out, HT28.out, HT29.out, HT30.out, ht]
      have HK2 := Lib.hid hk
      clear hk
      go_wp2_with (go_at_call 23; refine (HP.out.p3 HK2.out _ HG2.out).mono ?_; rintro e w2 ⟨cs, rfl, hB2⟩; have HB2 := Lib.hid hB2; clear hB2)
      go_ret2
      exact ⟨_, _, rfl, .inr ⟨by rw [HK2.out]; decide, _, by rw [HK2.out]; rfl, (HP.out.e1 _ (by rw [HK2.out]; decide)).symm⟩, HB1.out.trans (HB2.out.mono HB1.out.size)⟩
    go_upto_region 69 with fail
    have HT31 := Lib.hid ht
    clear ht
    obtain ht | ht := Bool.eq_false_or_eq_true (b.toList == [85, 98, 117, 110, 116, 117])
    · have hk : k = 5 := by rw [HK.out, ← toList_bs]; simp only [kindB, ecoTab, List.find?_cons, HT0.out, HT1.out, HT2.out, HT3.out, HT4.out, HT5.out, HT6.out, HT7.out, HT8.out, HT9.out, HT10.out, HT11.out, HT12.out, HT13.out, HT14.out, HT15.out, HT16.out, HT17.out, HT18.out, HT19.out, HT20.out, HT21.out, HT22.out, HT23.out, HT24.out, HT25.out, HT26.out, HT27.out, HT28.out, HT29.out, HT30.out, HT31.out, ht]
      have HK2 := Lib.hid hk
      clear hk
      go_wp2_with (go_at_call 25; refine (HP.out.p5 HK2.out _ HG2.out).mono ?_; rintro e w2 ⟨cs, rfl, hB2⟩; have HB2 := Lib.hid hB2; clear hB2)
      go_ret2
      exact ⟨_, _, rfl, .inr ⟨by rw [HK2.out]; decide, _, by rw [HK2.out]; rfl, by rw [HK2.out]; rfl⟩, HB1.out.trans (HB2.out.mono HB1.out.size)⟩
    go_upto_region 71 with fail
    have HT32 := Lib.hid ht
    clear ht
    obtain ht | ht := Bool.eq_false_or_eq_true (b.toList == [87, 111, 108, 102, 105])
    · have hk : k = 2 := by rw [HK.out, ← toList_bs]; simp only [kindB, ecoTab, List.find?_cons, HT0.out, HT1.out, HT2.out, HT3.out, HT4.out, HT5.out, HT6.out, HT7.out, HT8.out, HT9.out, HT10.out, HT11.out, HT12.out, HT13.out, HT14.out, HT15.out, HT16.out, HT17.out, HT18.out, HT19.out, HT20.out, HT21.out, HT22.out, HT23.out, HT24.out, HT25.out, HT26.out, HT27.out, HT28.out, HT29.out, HT30.out, HT31.out, HT32.out, ht]
      have HK2 := Lib.hid hk
      clear hk
      go_wp2_with (go_at_call 22; refine (HP.out.p2 HK2.out _ HG2.out).mono ?_; rintro e w2 ⟨cs, rfl, hB2⟩; have HB2 := Lib.hid hB2; clear hB2)
      go_ret2
      exact ⟨_, _, rfl, .inr ⟨by rw [HK2.out]; decide, _, by rw [HK2.out]; rfl, by rw [HK2.out]; rfl⟩, HB1.out.trans (HB2.out.mono HB1.out.size)⟩
    go_upto_region 73 with fail
    have HT33 := Lib.hid ht
    clear ht
    have hk : k = 0 := by rw [HK.out, ← toList_bs]; simp only [kindB, ecoTab, List.find?_cons, List.find?_nil, HT0.out, HT1.out, HT2.out, HT3.out, HT4.out, HT5.out, HT6.out, HT7.out, HT8.out, HT9.out, HT10.out, HT11.out, HT12.out, HT13.out, HT14.out, HT15.out, HT16.out, HT17.out, HT18.out, HT19.out, HT20.out, HT21.out, HT22.out, HT23.out, HT24.out, HT25.out, HT26.out, HT27.out, HT28.out, HT29.out, HT30.out, HT31.out, HT32.out, HT33.out]
    have HK2 := Lib.hid hk
    have hun := HG2.out.uns
    clear hk
    go_region
    all_goals go_wp2_with fail
    all_goals go_ret2
    all_goals exact ⟨_, _, rfl, .inl ⟨HK2.out, rfl, rfl⟩, by repeat (first | exact HB1.out | (refine Below.drew ?_))⟩
end Go.Proofs.YtoofphhfealcaaaGreatDoor
