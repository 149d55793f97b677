/-
  WALKS: Alpine's versions, at texts of digits and points.
  WALKS: Alpine's versions, at texts of digits and points: letter, suffixes, hash, build, the whole.
-/
import Derived.Test.YtoofphhfealcaaaGreatDoorE4
import Derived.Lib.LazyBuf
import Derived.Deep.MidRow
namespace Go.Proofs.YtoofphhfealcaaaGreatDoor
open Go.RowKit

theorem zzDigit_any (c : UInt8) (w : World) : Calls Tryz.prog 97 #[.int .u8 c.toNat] w fun e w' => e = .returned (.bool (isDig c)) ∧ w = w' := by
  have HD : Hid (isDig c = (decide (48 ≤ (c.toNat : Int)) && decide ((c.toNat : Int) ≤ 57))) := by
    show _ = _
    rw [← digR_dig]; rfl
  by_cases h1 : 48 ≤ (c.toNat : Int)
  · by_cases h2 : (c.toNat : Int) ≤ 57
    · have HE : Hid (isDig c = true) := by show _ = _; rw [HD.out]; simp [h1, h2]
      clear HD
      go_enter Tryz.func97, Tryz.ntmps97
      go_wp2_with fail
      go_ret
      exact ⟨by rw [HE.out]; rfl, rfl⟩
    · have HE : Hid (isDig c = false) := by show _ = _; rw [HD.out]; simp [h2]
      clear HD
      go_enter Tryz.func97, Tryz.ntmps97
      go_wp2_with fail
      go_ret
      exact ⟨by rw [HE.out]; rfl, rfl⟩
  · have HE : Hid (isDig c = false) := by show _ = _; rw [HD.out]; simp [h1]
    clear HD
    go_enter Tryz.func97, Tryz.ntmps97
    go_wp2_with fail
    go_ret
    exact ⟨by rw [HE.out]; rfl, rfl⟩

theorem nd_drop (l : List UInt8) (k : Nat) (h : k < l.length) : nd (l.drop k) = if isDig l[k] then nd (l.drop (k + 1)) + 1 else 0 := by
  rw [List.drop_eq_getElem_cons h]
  unfold nd
  rw [List.takeWhile_cons]
  split <;> simp [*]
set_option maxHeartbeats 1000000 in
/-- zzDigits: behind the digits. -/
theorem zzDigits_any (s : ByteArray) (i : Nat) (w : World) (hi : i ≤ s.size) (hs : s.size ≤ 4294967296) : Calls Tryz.prog 96 #[.string s, .int .i64 i] w fun e w' => e = .returned (.int .i64 ((i + nd ((bs s).drop i) : Nat) : Int)) ∧ w = w' := by
  go_enter Tryz.func96, Tryz.ntmps96
  go_wp2_with fail
  go_loopw [1] (fun v wr => ∃ k : Nat, v = .int .i64 k ∧ i ≤ k ∧ k ≤ s.size ∧ Hid (i + nd ((bs s).drop i) = k + nd ((bs s).drop k)) ∧ wr = w)
    (fun v _ => s.size - (intOf v).toNat)
  case atStart => exact ⟨i, rfl, Nat.le_refl _, hi, rfl, rfl⟩
  case round =>
    obtain ⟨k, rfl, h1, h2, HK, rfl⟩ := hrel
    by_cases hlt : k < s.size
    · have HG := Lib.hid (bs_get s k hlt)
      have HN := Lib.hid (nd_drop (bs s) k (by rw [bs_len]; exact hlt))
      cases hd : isDig s[k]
      · have HD := Lib.hid hd
        have HF : Hid (i + nd ((bs s).drop i) = k) := by
          show _ = _
          have h3 := HN.out
          rw [← HG.out, HD.out] at h3
          have := HK.out
          simp at h3
          omega
        clear hd
        go_wp2_with (go_at_call 97; refine (zzDigit_any _ _).mono ?_; rintro e w' ⟨rfl, rfl⟩; rw [HD.out])
        go_ret
        exact ⟨by rw [HF.out]; rfl, rfl⟩
      · have HD := Lib.hid hd
        have HF : Hid (i + nd ((bs s).drop i) = (k + 1) + nd ((bs s).drop (k + 1))) := by
          show _ = _
          have h3 := HN.out
          rw [← HG.out, HD.out] at h3
          have := HK.out
          simp at h3
          omega
        clear hd
        go_wp2_with (go_at_call 97; refine (zzDigit_any _ _).mono ?_; rintro e w' ⟨rfl, rfl⟩; rw [HD.out])
        go_roundw
        case rel => exact ⟨k + 1, by simp, by omega, by omega, HF, trivial⟩
        case measure => simp only [intOf]; omega
    · have HF : Hid (i + nd ((bs s).drop i) = k) := by
        show _ = _
        have := HK.out
        have h0 : (bs s).drop k = [] := List.drop_eq_nil_of_le (by rw [bs_len]; omega)
        rw [h0] at this
        exact this
      go_wp2_with fail
      go_ret
      exact ⟨by rw [HF.out]; rfl, rfl⟩
theorem take_more {l : List UInt8} {k m : Nat} (p : UInt8 → Bool) (h : ∀ c ∈ l.take k, p c = true) (h2 : ∀ c ∈ (l.drop k).take m, p c = true) : ∀ c ∈ l.take (k + m), p c = true := by
  rw [List.take_add]
  intro c hc
  rw [List.mem_append] at hc
  rcases hc with hc | hc
  · exact h c hc
  · exact h2 c hc
theorem List.mem_takeWhile_imp' {p : UInt8 → Bool} : ∀ {l : List UInt8} {c : UInt8}, c ∈ l.takeWhile p → p c = true
  | [], c, h => by simp at h
  | x :: r, c, h => by
    rw [List.takeWhile_cons] at h
    split at h
    · rename_i hx
      rw [List.mem_cons] at h
      rcases h with rfl | h
      · exact hx
      · exact List.mem_takeWhile_imp' h
    · simp at h
theorem nd_digs (l : List UInt8) : ∀ c ∈ l.take (nd l), isDig c = true := by
  have h : l.take (nd l) = l.takeWhile isDig := by
    have := List.takeWhile_prefix isDig (l := l)
    exact (List.prefix_iff_eq_take.1 this).symm
  rw [h]
  intro c hc
  exact List.mem_takeWhile_imp' hc
set_option maxHeartbeats 2000000 in
/-- zzAlpineNumbers: a head of digits and points. -/
theorem zzNumbers_any (s : ByteArray) (w : World) (hs : s.size ≤ 1048576) : Calls Tryz.prog 68 #[.string s] w fun e w' => ∃ i, e = .returned (.string (s.extract 0 i)) ∧ (i ≤ s.size ∧ (∀ c ∈ (bs s).take i, dotDig c = true)) ∧ w = w' := by
  go_enter Tryz.func68, Tryz.ntmps68
  go_wp2_with fail
  go_loopw [3] (fun v wr => ∃ k : Nat, v = .int .i64 k ∧ k ≤ s.size ∧ Hid (∀ c ∈ (bs s).take k, dotDig c = true) ∧ wr = w)
    (fun v _ => s.size - (intOf v).toNat)
  case atStart => exact ⟨0, rfl, Nat.zero_le _, fun c hc => by simp at hc, rfl⟩
  case round =>
    obtain ⟨k, rfl, h1, HK, rfl⟩ := hrel
    have hle : k + nd ((bs s).drop k) ≤ s.size := by
      have := nd_le ((bs s).drop k)
      rw [List.length_drop, bs_len] at this
      omega
    have HK2 : Hid (∀ c ∈ (bs s).take (k + nd ((bs s).drop k)), dotDig c = true) := take_more dotDig HK.out (fun c hc => by simp [dotDig, nd_digs _ c hc])
    generalize hj : k + nd ((bs s).drop k) = j at hle HK2
    have hkj : k ≤ j := by omega
    have HJ := Lib.hid hj
    clear hj
    by_cases h0 : j = k
    · subst h0
      go_wp2_with (go_at_call 96; refine (zzDigits_any s _ _ h1 (by omega)).mono ?_; rintro e w' ⟨rfl, rfl⟩; rw [HJ.out])
      go_ret
      exact ⟨_, rfl, ⟨h1, HK.out⟩, rfl⟩
    · have hne : ((j : Int) == k) = false := by rw [beq_eq_false_iff_ne]; omega
      by_cases hlt : j < s.size
      · have HG := Lib.hid (bs_get s j hlt)
        by_cases hdot : (s[j]'hlt).toNat = 46
        · have hq : (((s[j]'hlt).toNat : Int) == 46) = true := by rw [beq_iff_eq]; omega
          have HK3 : Hid (∀ c ∈ (bs s).take (j + 1), dotDig c = true) := by
            have hx : (bs s)[j]? = some (s[j]'hlt) := by rw [HG.out]; exact List.getElem?_eq_getElem _
            exact take_dot HK2.out hx (dot_yes hdot)
          clear hdot
          go_wp2_with (go_at_call 96; refine (zzDigits_any s _ _ h1 (by omega)).mono ?_; rintro e w' ⟨rfl, rfl⟩; rw [HJ.out])
          go_roundw
          case rel => exact ⟨j + 1, by simp, by omega, HK3, trivial⟩
          case measure => simp only [intOf]; omega
        · have hq : (((s[j]'hlt).toNat : Int) == 46) = false := by rw [beq_eq_false_iff_ne]; omega
          clear hdot
          go_wp2_with (go_at_call 96; refine (zzDigits_any s _ _ h1 (by omega)).mono ?_; rintro e w' ⟨rfl, rfl⟩; rw [HJ.out])
          go_roundw
          case rel => exact ⟨j, rfl, by omega, HK2, trivial⟩
          case measure => simp only [intOf]; omega
      · go_wp2_with (go_at_call 96; refine (zzDigits_any s _ _ h1 (by omega)).mono ?_; rintro e w' ⟨rfl, rfl⟩; rw [HJ.out])
        go_roundw
        case rel => exact ⟨j, rfl, by omega, HK2, trivial⟩
        case measure => simp only [intOf]; omega
theorem info140 : (Tryz.prog.info? 140).map (fun i => (i.zero, i.size, i.bytes)) = some (some (.agg #[.string (mk []), .pointer none, .int .i64 0]), 3, 32) := by kernel_rfl
theorem und41 : Tryz.prog.underlying 41 = some (.slice 140) := by kernel_rfl
theorem trim_mem {l p : List UInt8} {c : UInt8} (h : c ∈ Lib.trimPrefix l p) : c ∈ l := by
  unfold Lib.trimPrefix at h
  split at h
  · exact List.mem_of_mem_drop h
  · exact h
/-- A text of another's bytes, and no longer. -/
structure Of (r s : ByteArray) : Prop where
  mem : ∀ c ∈ bs r, c ∈ bs s
  size : r.size ≤ s.size
theorem of_refl (s : ByteArray) : Of s s := ⟨fun _ h => h, Nat.le_refl _⟩
theorem of_trans {a b c : ByteArray} (h : Of a b) (k : Of b c) : Of a c := ⟨fun x hx => k.mem x (h.mem x hx), Nat.le_trans h.size k.size⟩
theorem of_trim {t s : ByteArray} {p : List UInt8} (h : bs t = Lib.trimPrefix (bs s) p) : Of t s :=
  ⟨fun c hc => by rw [h] at hc; exact trim_mem hc, by rw [← bs_len t, ← bs_len s, h]; exact Lib.trimPrefix_le _ _⟩
/-- An AlpineVersion in memory. -/
def AlpAt (W : World) (b : Nat) (o : ByteArray) (iv : Bool) (rm : ByteArray) (cv : Value) (lt : ByteArray) (sv : Value) (hs : ByteArray) (bc : Value) : Prop :=
  W.heap[b]? = some (.cells #[.string o, .bool iv, .string rm, cv, .string lt, sv, .string hs, bc] 45)
theorem alp_cells {W : World} {b : Nat} {o : ByteArray} {iv : Bool} {rm : ByteArray} {cv : Value} {lt : ByteArray} {sv : Value} {hs : ByteArray} {bc : Value} (h : AlpAt W b o iv rm cv lt sv hs bc) :
    (W.cell? ⟨b, 0, none⟩ = some (.string o) ∧ W.cell? ⟨b, 1, none⟩ = some (.bool iv) ∧ W.cell? ⟨b, 2, none⟩ = some (.string rm) ∧ W.cell? ⟨b, 3, none⟩ = some cv ∧ W.cell? ⟨b, 4, none⟩ = some (.string lt) ∧ W.cell? ⟨b, 5, none⟩ = some sv ∧ W.cell? ⟨b, 6, none⟩ = some (.string hs) ∧ W.cell? ⟨b, 7, none⟩ = some bc)
    ∧ ∀ o, W.frozen? ⟨b, o, none⟩ = false := by
  unfold AlpAt at h
  refine ⟨⟨?_, ?_, ?_, ?_, ?_, ?_, ?_, ?_⟩, fun o => ?_⟩ <;> simp [World.cell?, World.frozen?, h]
theorem kp_sub {w w1 : World} {l : List Nat} (h : Below w.heap.size w w1) : Kp l w w1 := ⟨h.os, h.tape, h.output, h.size, fun k hk _ => h.block k hk⟩
theorem alp_below {W W1 : World} {b : Nat} {o : ByteArray} {iv : Bool} {rm : ByteArray} {cv : Value} {lt : ByteArray} {sv : Value} {hs : ByteArray} {bc : Value} (h : AlpAt W b o iv rm cv lt sv hs bc) {B : Nat} (hB : Below B W W1) (hb : b < B) : AlpAt W1 b o iv rm cv lt sv hs bc := by
  unfold AlpAt at *
  rw [hB.block b hb]
  exact h
theorem alp_set3 {W : World} {b : Nat} {o : ByteArray} {iv : Bool} {rm : ByteArray} {cv : Value} {lt : ByteArray} {sv : Value} {hs : ByteArray} {bc : Value} (h : AlpAt W b o iv rm cv lt sv hs bc) (v : Value) : AlpAt (W.setCell ⟨b, 3, none⟩ v) b o iv rm v lt sv hs bc := by
  unfold AlpAt at *
  rw [heap_setCell_at _ _ _ _ _ _ _ h]
  rfl
theorem row_slice {w : World} {base : Nat} {e : TypeId} {sz : Nat} {v : Value} {n : Nat} {xs : List Value} (h : w.ownsRow base e sz v n xs) : ∃ p c, v = .slice p n c := by
  rcases h.2 with ⟨rfl, h0⟩ | ⟨g, cap, cur, rfl, _⟩
  · exact ⟨none, 0, by rw [h0]⟩
  · exact ⟨_, _, rfl⟩
theorem row_below {w w1 : World} {base : Nat} {e : TypeId} {sz : Nat} {v : Value} {n : Nat} {xs : List Value} (h : w.ownsRow base e sz v n xs) (hb : Below w.heap.size w w1) : w1.ownsRow base e sz v n xs :=
  h.kept ⟨hb.os, hb.tape, hb.output, hb.size, fun i hi _ => hb.block i hi⟩ (row := none) (by cases v.ownBlock <;> simp)
theorem kp_then {l : List Nat} {w w1 w2 : World} (h : Kp l w w1) (hb : Below w.heap.size w1 w2) : Kp l w w2 :=
  ⟨hb.os.trans h.os, hb.tape.trans h.tape, hb.output.trans h.output, Nat.le_trans h.size hb.size, fun k hk hn => (hb.block k hk).trans (h.block k hk hn)⟩
/-- What the loop over the pieces has in hand. -/
structure Nk (w1 wr : World) (b : Nat) (o : ByteArray) (bc : Value) (k : Nat) : Prop where
  ex : ∃ cv xs, AlpAt wr b o false (mk []) cv (mk []) (.slice none 0 0) (mk []) bc ∧ wr.ownsRow w1.heap.size 140 3 cv k xs
  kp : Kp [b] w1 wr
/-- What Alpine's parsers do to the version: from some parts to some others. -/
def AlpPost (w : World) (b : Nat) (o : ByteArray) (bc : Value) (rest : ByteArray → Prop) (e : Ending) (w' : World) : Prop :=
  ∃ r p n c, e = .returned (.tuple #[.string r, .nilIface]) ∧ rest r ∧ AlpAt w' b o false (mk []) (.slice p n c) (mk []) (.slice none 0 0) (mk []) bc ∧ Kp [b] w w'

set_option maxRecDepth 100000 in
set_option maxHeartbeats 4000000 in
theorem alpNumbers_any (b : Nat) (o s : ByteArray) (w : World) (a ae ai au : Addr) (hG : Gt w a ae ai au) (hs : s.size ≤ 1048576) (hb20 : 20 ≤ b) (bc : Value) (hA : AlpAt w b o false (mk []) (.slice none 0 0) (mk []) (.slice none 0 0) (mk []) bc) :
    Calls Tryz.prog 40 #[.pointer (some ⟨b, 0, none⟩), .string s] w (AlpPost w b o bc fun r => Of r s) := by
  have HG := Lib.hid hG
  have HA := Lib.hid hA
  have hbl : b < w.heap.size := (Array.getElem?_eq_some_iff.1 hA).1
  clear hG hA
  go_enter Tryz.func40, Tryz.ntmps40
  go_upto_region 2 with (go_at_call 68; refine (zzNumbers_any s _ hs).mono ?_; rintro e w1 ⟨i, rfl, ⟨hi, hdd⟩, rfl⟩; have HDD := Lib.hid hdd; clear hdd)
  have hsub : (s.extract 0 i).size ≤ s.size := by simp; omega
  have HBS : Hid (∀ c ∈ bs (s.extract 0 i), dotDig c = true) := by
    have : bs (s.extract 0 i) = (bs s).take i := by rw [bs_extract]; simp
    show ∀ c ∈ bs (s.extract 0 i), dotDig c = true
    rw [this]
    exact HDD.out
  generalize s.extract 0 i = sub at hsub HBS
  rcases ise_dec sub with ⟨hse, hsb⟩ | ⟨hse, hsb⟩
  · have hee := eq_empty hsb
    clear hsb hse
    go_wp2_with fail
    go_ret2
    exact ⟨_, none, 0, 0, rfl, of_refl _, HA.out, Kp.refl _ _⟩
  · have hee := ne_empty hsb
    clear hsb hse
    have HPS : Hid (∀ x ∈ pieces 46 sub, x.size ≤ s.size) := fun x hx => by have := pieces_size hx; omega
    have HPN : Hid (∀ x ∈ pieces 46 sub, bs x ≠ [] → isNum (bs x) = true) := fun x hx h0 => by
      unfold pieces at hx
      rw [List.mem_map] at hx
      obtain ⟨l, h1, rfl⟩ := hx
      rw [bs_mk] at h0 ⊢
      refine isNum_digs h0 (fun c hc => ?_)
      obtain ⟨h2, h3⟩ := cutBy_mem _ _ l h1 c hc
      have h4 := HBS.out c h2
      simp [dotDig] at h4
      simp at h3
      rcases h4 with h4 | h4
      · exact h4
      · exact absurd h4 h3
    go_wp2_with (go_at_call 20; refine (zzSplit_any sub 46 _ (by omega)).mono ?_; rintro e w2 ⟨v, rfl, hS, hB2⟩; obtain ⟨A, cp, rfl⟩ := strs_len hS; have HS := Lib.hid hS; have HB2 := Lib.hid hB2; have hsz2 := hB2.size; have hpl := pieces_len 46 sub; generalize hn : (pieces 46 sub).length = n at *; have HN := Lib.hid hn; clear hS hB2 hn)
    have HA2 := Lib.hid (alp_below HA.out HB2.out hbl)
    have HG2 := Lib.hid (gt_below HG.out HB2.out)
    have hw20 := HG.out.size
    go_loopw [19] (fun i wr => ∃ k : Nat, i = .int .i64 k ∧ k ≤ n ∧ Hid (Nk w2 wr b o bc k)) (fun i _ => n - (intOf i).toNat)
    case atStart => exact ⟨0, rfl, Nat.zero_le _, ⟨_, [], HA2.out, World.ownsRow_nil _ _ _ _⟩, Kp.refl _ _⟩
    case round =>
      obtain ⟨k, rfl, hk, HK⟩ := hrel
      have hwz := HK.out.kp.size
      by_cases hlt : k < n
      · obtain ⟨g, cp2, hA, hg1, hg2, hcs⟩ := strs_cells HS.out (by rw [HN.out]; omega)
        injection hA with hA1 hA2 hA3
        subst hA1
        have hck : wr.cell? ⟨g, k, none⟩ = some (.string ((pieces 46 sub)[k]'(by rw [HN.out]; omega))) := by
          rw [← hcs k (by rw [HN.out]; omega)]
          simp only [World.cell?]
          rw [HK.out.kp.block g hg2 (by simp; omega)]
        have HX : Hid ((pieces 46 sub)[k]? = some ((pieces 46 sub)[k]'(by rw [HN.out]; omega))) := List.getElem?_eq_getElem _
        generalize ((pieces 46 sub)[k]'(by rw [HN.out]; omega)) = x at hck HX
        have hxs : x.size ≤ s.size := HPS.out x (List.mem_of_getElem? HX.out)
        have HGR := Lib.hid (gt_kp HG2.out HK.out.kp (by simp; omega))
        clear hcs hA2 hA3
        rcases ise_dec x with ⟨hxe, hxb⟩ | ⟨hxe, hxb⟩
        · have hee2 := eq_empty hxb
          clear hxb hxe
          obtain ⟨cv, xs, hA3, hown⟩ := HK.out.ex
          obtain ⟨p3, c3, rfl⟩ := row_slice hown
          have HA3 := Lib.hid hA3
          clear hA3 hown
          go_wp2_with (go_at_call 69; refine (trimV _ _ _).mono ?_; rintro e w5 ⟨t5, rfl, ht5, rfl⟩; have HT5 := Lib.hid ht5; clear ht5)
          go_ret2
          exact ⟨_, _, _, _, rfl, of_trim HT5.out, HA3.out, (kp_sub HB2.out).trans HK.out.kp⟩
        · have hee2 := ne_empty hxb
          have HNU := Lib.hid (HPN.out x (List.mem_of_getElem? HX.out) hxb)
          clear hxb hxe
          obtain ⟨cv, xs, hA3, hown⟩ := HK.out.ex
          obtain ⟨p3, c3, rfl⟩ := row_slice hown
          have HA3 := Lib.hid hA3
          have HO3 := Lib.hid hown
          have hne1 : 1 ≠ b := by omega
          clear hA3 hown
          go_upto_region 11 with (go_at_call 52; refine (conv_yes x _ a ae ai au HGR.out.toGl (by omega) HNU.out).mono ?_; rintro e w3 ⟨rfl, _, hB3⟩; have HB3 := Lib.hid hB3; clear hB3)
          have hw3 := HB3.out.size
          obtain ⟨⟨_, _, _, q3, _, _, _, _⟩, f3⟩ := alp_cells (alp_below HA3.out HB3.out (by omega))
          have g3 := f3 3
          clear f3
          go_wp2_with (at_builtin; go_loud (refine app1 (P := Tryz.prog) (w0 := w3) (W := w3) w2.heap.size rfl _ _ 41 140 _ 3 32 rfl und41 info140 rfl (by omega) (by omega) _ k _ _ rfl rfl rfl (by simp [Value.oneCell']) (row_below HO3.out HB3.out) (Below.refl _ _) (by omega) (by omega) ?_); intro v1 w4 hown4 hB4 _; obtain ⟨⟨_, _, _, q4, _, _, _, _⟩, f4⟩ := alp_cells (alp_below (alp_below HA3.out HB3.out (by omega)) hB4 (by omega)); have g4 := f4 3; clear f4; obtain ⟨p4, c4, rfl⟩ := row_slice hown4; have HO4 := Lib.hid hown4; have HB4 := Lib.hid hB4; clear hown4 hB4)
          go_roundw
          case rel =>
            refine ⟨k + 1, by simp, by omega, ⟨_, _, alp_set3 (alp_below (alp_below HA3.out HB3.out (by omega)) HB4.out (by omega)) _, ownsRow_setCell_below HO4.out (by simp; omega) _⟩, ?_⟩
            refine Kp.setCell (kp_then (HK.out.kp.trans (kp_sub HB3.out)) HB4.out) (by simp) _
          case measure => simp only [intOf]; omega
      · obtain ⟨cv, xs, hA3, hown⟩ := HK.out.ex
        obtain ⟨p3, c3, rfl⟩ := row_slice hown
        have HA3 := Lib.hid hA3
        clear hA3 hown
        go_wp2_with (go_at_call 69; refine (trimV _ _ _).mono ?_; rintro e w5 ⟨t5, rfl, ht5, rfl⟩; have HT5 := Lib.hid ht5; clear ht5)
        go_ret2
        exact ⟨_, _, _, _, rfl, of_trim HT5.out, HA3.out, (kp_sub HB2.out).trans HK.out.kp⟩
end Go.Proofs.YtoofphhfealcaaaGreatDoor

namespace Go.Proofs.YtoofphhfealcaaaGreatDoor
open Go.RowKit

/-- An AlpineVersion in memory, of whatever parts. -/
def AlpAny (W : World) (b : Nat) : Prop := ∃ o iv rm p n c lt p2 n2 c2 hs q, AlpAt W b o iv rm (.slice p n c) lt (.slice p2 n2 c2) hs (.pointer q)
theorem alp_set {W : World} {b i : Nat} {cs : Array Value} {v : Value} (h : W.heap[b]? = some (.cells cs 45)) : (W.setCell ⟨b, i, none⟩ v).heap[b]? = some (.cells (cs.setIfInBounds i v) 45) := heap_setCell_at _ _ _ _ _ _ _ h

/-- A truth value; true only of a text that is not empty. -/
def LowPost (s : ByteArray) (w : World) (e : Ending) (w' : World) : Prop := ∃ b, e = .returned (.bool b) ∧ (b = true → 0 < s.size) ∧ w = w'
set_option maxHeartbeats 1000000 in
theorem zzLower_any (s : ByteArray) (w : World) : Calls Tryz.prog 70 #[.string s] w (LowPost s w) := by
  rcases ise_dec s with ⟨hse, hsb⟩ | ⟨hse, hsb⟩
  · have hee := eq_empty hsb
    clear hse hsb
    go_enter Tryz.func70, Tryz.ntmps70
    go_wp2_with fail
    go_ret
    exact ⟨_, rfl, (fun h => by cases h), rfl⟩
  · have hee := ne_empty hsb
    have h0 : 0 < s.size := by
      rcases Nat.eq_zero_or_pos s.size with h | h
      · exact absurd (List.eq_nil_of_length_eq_zero (by rw [bs_len]; exact h)) hsb
      · exact h
    clear hse hsb
    generalize hc : ((s[0]'h0).toNat : Int) = c
    by_cases h1 : 97 ≤ c
    · by_cases h2 : c ≤ 122
      · go_enter Tryz.func70, Tryz.ntmps70
        go_wp2_with fail
        go_ret
        exact ⟨_, rfl, fun _ => h0, rfl⟩
      · go_enter Tryz.func70, Tryz.ntmps70
        go_wp2_with fail
        go_ret
        exact ⟨_, rfl, fun _ => h0, rfl⟩
    · go_enter Tryz.func70, Tryz.ntmps70
      go_wp2_with fail
      go_ret
      exact ⟨_, rfl, fun _ => h0, rfl⟩

set_option maxHeartbeats 1000000 in
theorem alpLetter_any (b : Nat) (s : ByteArray) (w : World) (hs : s.size ≤ 1048576) (hA : AlpAny w b) :
    Calls Tryz.prog 41 #[.pointer (some ⟨b, 0, none⟩), .string s] w fun e w' => ∃ r, e = .returned (.string r) ∧ Of r s ∧ AlpAny w' b ∧ Kp [b] w w' := by
  obtain ⟨o, iv, rm, p, n, c, lt, p2, n2, c2, hh, q, hA⟩ := hA
  have HA := Lib.hid hA
  obtain ⟨⟨_, _, _, _, q4, _, _, _⟩, f⟩ := alp_cells hA
  have g4 := f 4
  clear f hA
  go_enter Tryz.func41, Tryz.ntmps41
  go_wp2_with (first
    | (go_at_call 70; refine (zzLower_any s _).mono ?_; rintro e w' ⟨bb, rfl, hb, rfl⟩; obtain rfl | ⟨rfl, h0⟩ : bb = false ∨ (bb = true ∧ 0 < s.size) := (by cases bb; exact .inl rfl; exact .inr ⟨rfl, hb rfl⟩))
    | (go_at_call 69; refine (trimV _ _ _).mono ?_; rintro e w5 ⟨t5, rfl, ht5, rfl⟩; have HT5 := Lib.hid ht5; clear ht5))
  all_goals go_ret
  · exact ⟨_, rfl, of_trim HT5.out, ⟨_, _, _, _, _, _, _, _, _, _, _, _, HA.out⟩, Kp.refl _ _⟩
  · exact ⟨_, rfl, of_trim HT5.out, ⟨_, _, _, _, _, _, _, _, _, _, _, _, alp_set HA.out⟩, (Kp.refl _ _).setCell (by simp) _⟩

theorem nil26 (w : World) : (binOp .eql 26 (.slice none 0 0) (.slice none 0 0)).run Tryz.prog w = .ok (.bool true) w := by
  have := Lib.run_eql_slice_nil (P := Tryz.prog) w 26 9 none 0 0 0 0 und26
  simpa using this
/-- The first byte is not c. -/
def NoHead (c : UInt8) (s : ByteArray) : Prop := ∀ h : 0 < s.size, s[0]'h ≠ c
set_option maxHeartbeats 1000000 in
theorem zzHash_none (s : ByteArray) (w : World) (h126 : NoHead 126 s) : Calls Tryz.prog 73 #[.string s] w fun e w' => e = .returned (.string (mk [])) ∧ w = w' := by
  rcases ise_dec s with ⟨hse, hsb⟩ | ⟨hse, hsb⟩
  · have hee := eq_empty hsb
    clear hse hsb h126
    go_enter Tryz.func73, Tryz.ntmps73
    go_wp2_with fail
    go_ret
    exact ⟨rfl, rfl⟩
  · have hee := ne_empty hsb
    have h0 : 0 < s.size := by
      rcases Nat.eq_zero_or_pos s.size with h | h
      · exact absurd (List.eq_nil_of_length_eq_zero (by rw [bs_len]; exact h)) hsb
      · exact h
    have hne : (((s[0]'h0).toNat : Int) == 126) = false := by
      rw [beq_eq_false_iff_ne]
      intro h
      exact h126 h0 (UInt8.toNat_inj.1 (by simpa using (by omega : (s[0]'h0).toNat = 126)))
    clear hse hsb h126
    go_enter Tryz.func73, Tryz.ntmps73
    go_wp2_with fail
    go_ret
    exact ⟨rfl, rfl⟩
set_option maxHeartbeats 1000000 in
theorem alpHash_any (b : Nat) (s : ByteArray) (w : World) (h126 : NoHead 126 s) (hA : AlpAny w b) :
    Calls Tryz.prog 43 #[.pointer (some ⟨b, 0, none⟩), .string s] w fun e w' => ∃ r, e = .returned (.string r) ∧ Of r s ∧ AlpAny w' b ∧ Kp [b] w w' := by
  obtain ⟨o, iv, rm, p, n, c, lt, p2, n2, c2, hh, q, hA⟩ := hA
  have HA := Lib.hid hA
  have HN := Lib.hid h126
  obtain ⟨⟨_, _, _, _, _, _, q6, _⟩, f⟩ := alp_cells hA
  have g6 := f 6
  clear f hA h126
  go_enter Tryz.func43, Tryz.ntmps43
  go_wp2_with (first
    | (go_at_call 73; refine (zzHash_none s _ HN.out).mono ?_; rintro e w' ⟨rfl, rfl⟩)
    | (go_at_call 69; refine (trimV _ _ _).mono ?_; rintro e w5 ⟨t5, rfl, ht5, rfl⟩; have HT5 := Lib.hid ht5; clear ht5))
  go_ret
  exact ⟨_, rfl, of_trim HT5.out, ⟨_, _, _, _, _, _, _, _, _, _, _, _, alp_set HA.out⟩, (Kp.refl _ _).setCell (by simp) _⟩

set_option maxHeartbeats 1000000 in
/-- zzAlpineSuffixes where no byte is an underscore. -/
theorem zzSuffixes_none (s : ByteArray) (w : World) (hs : s.size ≤ 1048576) (h95 : 95 ∉ bs s) : Calls Tryz.prog 71 #[.string s] w fun e w' => e = .returned (.slice none 0 0) ∧ w = w' := by
  have HN := Lib.hid h95
  clear h95
  go_enter Tryz.func71, Tryz.ntmps71
  go_wp2_with fail
  go_loopw [3, 4] (fun o v wr => ∃ k : Nat, o = .slice none 0 0 ∧ v = .int .i64 k ∧ k ≤ s.size ∧ wr = w) (fun _ v _ => s.size - (intOf v).toNat)
  case atStart => exact ⟨0, rfl, rfl, Nat.zero_le _, rfl⟩
  case round =>
    obtain ⟨k, rfl, rfl, hk, rfl⟩ := hrel
    by_cases hlt : k < s.size
    · have hne : (((s[k]'hlt).toNat : Int) == 95) = false := by
        rw [beq_eq_false_iff_ne]
        intro h
        have h2 : (s[k]'hlt) = 95 := UInt8.toNat_inj.1 (by simpa using (by omega : (s[k]'hlt).toNat = 95))
        exact HN.out (by rw [← h2, bs_get s k hlt]; exact List.getElem_mem _)
      go_wp2_with fail
      go_roundw
      case rel => exact ⟨k + 1, rfl, by simp, by omega, trivial⟩
      case measure => simp only [intOf]; omega
    · go_wp2_with fail
      go_ret
      exact ⟨rfl, rfl⟩
set_option maxHeartbeats 1000000 in
theorem alpSuffixes_none (b : Nat) (s : ByteArray) (w : World) (hs : s.size ≤ 1048576) (h95 : 95 ∉ bs s) :
    Calls Tryz.prog 42 #[.pointer (some ⟨b, 0, none⟩), .string s] w fun e w' => e = .returned (.tuple #[.string s, .nilIface]) ∧ w = w' := by
  have HN := Lib.hid h95
  clear h95
  go_enter Tryz.func42, Tryz.ntmps42
  go_wp2_with (go_at_call 71; refine (zzSuffixes_none s _ hs HN.out).mono ?_; rintro e w' ⟨rfl, rfl⟩)
  refine wp_loop_rounds 1 ?_
  rw [rounds_succ]
  go_wp2_with fail
  go_ret2
  exact ⟨rfl, rfl⟩
set_option maxHeartbeats 1000000 in
theorem zzBuild_none (s : ByteArray) (w : World) (hs : s.size ≤ 1048576) (h45 : NoHead 45 s) : Calls Tryz.prog 74 #[.string s] w fun e w' => e = .returned (.slice none 0 0) ∧ w = w' := by
  by_cases h2 : 2 ≤ s.size
  · have hx : ((s.extract 0 2).toList == [45, 114]) = false := by
      rw [beq_eq_false_iff_ne, ByteArray.toList_eq]
      intro h
      have h1 : bs (s.extract 0 2) = [45, 114] := h
      rw [bs_extract] at h1
      have h3 := congrArg (fun l => l[0]?) h1
      simp at h3
      refine h45 (by omega) ?_
      rw [bs_get]
      have h4 : (bs s)[0]? = some 45 := by simpa using h3
      exact (List.getElem?_eq_some_iff.1 h4).2
    clear h45
    go_enter Tryz.func74, Tryz.ntmps74
    go_wp2_with (go_in)
    go_ret
    exact ⟨rfl, rfl⟩
  · clear h45
    go_enter Tryz.func74, Tryz.ntmps74
    go_wp2_with (go_in)
    go_ret
    exact ⟨rfl, rfl⟩
set_option maxRecDepth 100000 in
set_option maxHeartbeats 2000000 in
theorem alpBuild_none (b : Nat) (s : ByteArray) (w : World) (hs : s.size ≤ 1048576) (h45 : NoHead 45 s) (hA : AlpAny w b) :
    Calls Tryz.prog 44 #[.pointer (some ⟨b, 0, none⟩), .string s] w fun e w' => e = .returned (.tuple #[.string s, .nilIface]) ∧ AlpAny w' b ∧ Kp [b] w w' := by
  obtain ⟨o, iv, rm, p, n, c, lt, p2, n2, c2, hh, q, hA⟩ := hA
  have HA := Lib.hid hA
  have HN := Lib.hid h45
  obtain ⟨⟨_, q1, _, _, _, _, _, _⟩, f⟩ := alp_cells hA
  have g1 := f 1
  clear f hA h45
  rcases ise_dec s with ⟨hse, hsb⟩ | ⟨hse, hsb⟩
  · have hee := eq_empty hsb
    clear hse hsb
    go_enter Tryz.func44, Tryz.ntmps44
    go_wp2_with fail
    go_ret2
    exact ⟨rfl, ⟨_, _, _, _, _, _, _, _, _, _, _, _, HA.out⟩, Kp.refl _ _⟩
  · have hee := ne_empty hsb
    clear hse hsb
    have hnn : ∀ W, (binOp .eql 26 (.slice none 0 0) (.slice none 0 0)).run Tryz.prog W = .ok (.bool true) W := fun W => nil26 W
    go_enter Tryz.func44, Tryz.ntmps44
    go_wp2_with (go_at_call 74; refine (zzBuild_none s _ hs HN.out).mono ?_; rintro e w' ⟨rfl, rfl⟩)
    go_ret2
    exact ⟨rfl, ⟨_, _, _, _, _, _, _, _, _, _, _, _, alp_set HA.out⟩, (Kp.refl _ _).setCell (by simp) _⟩
theorem dd_ne {s r : ByteArray} {x : UInt8} (h : ∀ c ∈ bs s, dotDig c = true) (hr : Of r s) (hx : dotDig x = false) : x ∉ bs r ∧ NoHead x r :=
  ⟨fun hm => (by rw [h x (hr.mem x hm)] at hx; cases hx), fun h0 he => by
    have : x ∈ bs r := by rw [← he, bs_get r 0 h0]; exact List.getElem_mem _
    rw [h x (hr.mem x this)] at hx
    cases hx⟩
/-- A struct, and no error. -/
def OkPost (w : World) (e : Ending) (w' : World) : Prop := ∃ cs, e = .returned (.tuple #[.agg cs, .nilIface]) ∧ Below w.heap.size w w'
/-- The zero AlpineVersion's cells. -/
abbrev alp0 : Obj := .cells #[.string (mk []), .bool false, .string (mk []), .slice none 0 0, .string (mk []), .slice none 0 0, .string (mk []), .pointer none] 45
/-- What the walk keeps of the world at ParseAlpineVersion. -/
structure Ab (w W : World) : Prop where
  at' : W.heap[w.heap.size]? = some alp0
  below : Below w.heap.size w W
  lt : w.heap.size + 2 < W.heap.size
theorem ab_step {w W W1 : World} (h : Ab w W) (hk : Kp [w.heap.size + 1 + 1] W W1) : Ab w W1 :=
  ⟨by rw [hk.block _ (by have := h.lt; omega) (by simp; omega)]; exact h.at', h.below.trans ⟨hk.os, hk.tape, hk.output, hk.size, fun k hk2 => hk.block k (by have := h.lt; omega) (by simp; omega)⟩, Nat.lt_of_lt_of_le h.lt hk.size⟩
/-- The world in which the parsers begin. -/
abbrev alpW (w : World) (s : ByteArray) : World := ((w.alloc alp0).alloc (.cells #[.bool false, .slice none 0 0] 112)).alloc (.cells #[.string s, .bool false, .string (mk []), .slice none 0 0, .string (mk []), .slice none 0 0, .string (mk []), .pointer (some ⟨w.heap.size + 1, 0, none⟩)] 45)
theorem alpW_below (w : World) (s : ByteArray) : Below w.heap.size w (alpW w s) := (((Below.refl _ _).alloc (Nat.le_refl _) _).alloc (by simp) _).alloc (by simp; omega) _
theorem ab_start (w : World) (s : ByteArray) : Ab w (alpW w s) :=
  ⟨by rw [heap_alloc_old _ _ (by simp; omega), heap_alloc_old _ _ (by simp)]; exact heap_alloc_new w _, alpW_below w s, by simp⟩
theorem alpW_at (w : World) (s : ByteArray) : AlpAt (alpW w s) (w.heap.size + 1 + 1) s false (mk []) (.slice none 0 0) (mk []) (.slice none 0 0) (mk []) (.pointer (some ⟨w.heap.size + 1, 0, none⟩)) := by
  have := heap_alloc_new ((w.alloc alp0).alloc (.cells #[.bool false, .slice none 0 0] 112)) (.cells #[.string s, .bool false, .string (mk []), .slice none 0 0, .string (mk []), .slice none 0 0, .string (mk []), .pointer (some ⟨w.heap.size + 1, 0, none⟩)] 45)
  simpa [AlpAt, alpW] using this
theorem cells8 {W : World} {b : Nat} {x0 x1 x2 x3 x4 x5 x6 x7 : Value} {T : TypeId} (h : W.heap[b]? = some (.cells #[x0, x1, x2, x3, x4, x5, x6, x7] T)) :
    (W.cell? ⟨b, 0, none⟩ = some x0 ∧ W.cell? ⟨b, 1, none⟩ = some x1 ∧ W.cell? ⟨b, 2, none⟩ = some x2 ∧ W.cell? ⟨b, 3, none⟩ = some x3 ∧ W.cell? ⟨b, 4, none⟩ = some x4 ∧ W.cell? ⟨b, 5, none⟩ = some x5 ∧ W.cell? ⟨b, 6, none⟩ = some x6 ∧ W.cell? ⟨b, 7, none⟩ = some x7)
    ∧ (W.frozen? ⟨b, 0, none⟩ = false ∧ W.frozen? ⟨b, 1, none⟩ = false ∧ W.frozen? ⟨b, 2, none⟩ = false ∧ W.frozen? ⟨b, 3, none⟩ = false ∧ W.frozen? ⟨b, 4, none⟩ = false ∧ W.frozen? ⟨b, 5, none⟩ = false ∧ W.frozen? ⟨b, 6, none⟩ = false ∧ W.frozen? ⟨b, 7, none⟩ = false) := by
  refine ⟨⟨?_, ?_, ?_, ?_, ?_, ?_, ?_, ?_⟩, ⟨?_, ?_, ?_, ?_, ?_, ?_, ?_, ?_⟩⟩ <;> simp [World.cell?, World.frozen?, h]
theorem inf45 : (Tryz.prog.info? 45).map (·.size) = some 8 := by kernel_rfl
theorem alp_ones (o : ByteArray) (iv : Bool) (rm : ByteArray) (p : Option Addr) (n c : Nat) (lt : ByteArray) (p2 : Option Addr) (n2 c2 : Nat) (hs : ByteArray) (q : Option Addr) : (#[Value.string o, .bool iv, .string rm, .slice p n c, .string lt, .slice p2 n2 c2, .string hs, .pointer q]).all (·.oneCell') = true := by
  simp [Value.oneCell']
theorem alp_there {W : World} {b : Nat} (h : W.heap[b]? = some alp0) : W.there b 0 8 := by
  intro j hj
  obtain ⟨⟨z0, z1, z2, z3, z4, z5, z6, z7⟩, v0, v1, v2, v3, v4, v5, v6, v7⟩ := cells8 h
  rcases j with _ | _ | _ | _ | _ | _ | _ | _ | j
  all_goals first | (exfalso; omega) | simp [*]
theorem sub_size {s r : ByteArray} (h : r.size ≤ s.size) (hs : s.size ≤ 1048576) : r.size ≤ 1048576 := Nat.le_trans h hs

theorem res_cell1 {fn : Func} {tm : Array Value} {k : Nat} {ty : TypeId} {b : Nat} {cs : List Value} {d : TypeDesc} {W : World} (hr : fn.results = #[.cell k ty]) (hk : tm.getD k undef = .pointer (some ⟨b, 0, none⟩)) (hc : W.rangeAt b 0 cs)
    (hu : Tryz.prog.underlying ty = some d) (hd : d.isRow = true) (hi : (Tryz.prog.info? ty).map (·.size) = some cs.length) : (results fn tm).run Tryz.prog W = .ok (.agg cs.toArray) W := by
  have h := run_loadVar_mid W b 0 ty cs d hc hu hd hi
  have hk2 : tm[k]?.getD undef = .pointer (some ⟨b, 0, none⟩) := by simpa using hk
  unfold results
  rw [hr]
  simp [hk2, asAddr, h]
theorem res_cell_tmp {fn : Func} {tm : Array Value} {k j : Nat} {ty : TypeId} {b : Nat} {cs : List Value} {d : TypeDesc} {W : World} (hr : fn.results = #[.cell k ty, .tmp j]) (hk : tm.getD k undef = .pointer (some ⟨b, 0, none⟩)) (hc : W.rangeAt b 0 cs)
    (hu : Tryz.prog.underlying ty = some d) (hd : d.isRow = true) (hi : (Tryz.prog.info? ty).map (·.size) = some cs.length) : (results fn tm).run Tryz.prog W = .ok (.tuple #[.agg cs.toArray, tm.getD j undef]) W := by
  have h := run_loadVar_mid W b 0 ty cs d hc hu hd hi
  have hk2 : tm[k]?.getD undef = .pointer (some ⟨b, 0, none⟩) := by simpa using hk
  unfold results
  rw [hr]
  simp [hk2, asAddr, h]
/-- Stores into one block, from base on, change nothing below. -/
theorem below_setCells {B : Nat} {w : World} {b : Nat} (hb : B ≤ b) : ∀ (vs : List Value) (o : Nat) {W : World}, Below B w W → Below B w (W.setCells b o vs)
  | [], _, _, h => h
  | _ :: r, o, _, h => by
    rw [World.setCells]
    exact below_setCells hb r (o + 1) (Below.setCell h hb _)
theorem row_of {ty : TypeId} (h : (Tryz.prog.underlying ty).map TypeDesc.isRow = some true) : ∃ d, Tryz.prog.underlying ty = some d ∧ d.isRow = true := by
  cases hu : Tryz.prog.underlying ty with
  | none => rw [hu] at h; cases h
  | some d => rw [hu] at h; exact ⟨d, rfl, by simpa using h⟩
theorem und45 : ∃ d, Tryz.prog.underlying 45 = some d ∧ d.isRow = true := row_of (by kernel_rfl)

set_option maxRecDepth 100000 in
set_option maxHeartbeats 4000000 in
theorem parseAlpine_dd (s : ByteArray) (w : World) (a ae ai au : Addr) (hG : Gt w a ae ai au) (hs : s.size ≤ 1048576) (hd : ∀ c ∈ bs s, dotDig c = true) : Calls Tryz.prog 22 #[.string s] w (OkPost w) := by
  have HD := Lib.hid hd
  have hw20 := hG.size
  have HG := Lib.hid (gt_below hG (alpW_below w s))
  have HA := Lib.hid (alpW_at w s)
  clear hG hd
  go_enter Tryz.func22, Tryz.ntmps22
  go_upto_region 14 with (first
    | (go_at_call 40; go_loud (refine (alpNumbers_any (w.heap.size + 1 + 1) s s _ a ae ai au HG.out hs (by omega) _ HA.out).mono ?_); rintro e w1 ⟨r1, p, n, c, rfl, hr1, hA1, hK1⟩; have HB1 := Lib.hid (ab_step (ab_start w s) hK1); have HA1 : Hid (AlpAny w1 (w.heap.size + 1 + 1)) := ⟨_, _, _, _, _, _, _, _, _, _, _, _, hA1⟩; have HR1 := Lib.hid hr1; clear hr1 hA1 hK1)
    | (go_at_call 41; go_loud (refine (alpLetter_any (w.heap.size + 1 + 1) r1 _ (Nat.le_trans HR1.out.size hs) HA1.out).mono ?_); rintro e w2 ⟨r2, rfl, hr2, hA2, hK2⟩; have HB2 := Lib.hid (ab_step HB1.out hK2); have HA2 := Lib.hid hA2; have HR2 := Lib.hid (of_trans hr2 HR1.out); clear hr2 hA2 hK2)
    | (go_at_call 42; go_loud (refine (alpSuffixes_none (w.heap.size + 1 + 1) r2 _ (Nat.le_trans HR2.out.size hs) (dd_ne HD.out HR2.out rfl).1).mono ?_); rintro e w3 ⟨rfl, rfl⟩)
    | (go_at_call 43; go_loud (refine (alpHash_any (w.heap.size + 1 + 1) r2 _ (dd_ne HD.out HR2.out rfl).2 HA2.out).mono ?_); rintro e w3 ⟨r3, rfl, hr3, hA3, hK3⟩; have HB3 := Lib.hid (ab_step HB2.out hK3); have HA3 := Lib.hid hA3; have HR3 := Lib.hid (of_trans hr3 HR2.out); clear hr3 hA3 hK3)
    | (go_at_call 44; go_loud (refine (alpBuild_none (w.heap.size + 1 + 1) r3 _ (Nat.le_trans HR3.out.size hs) (dd_ne HD.out HR3.out rfl).2 HA3.out).mono ?_); rintro e w4 ⟨rfl, hA4, hK4⟩; have HB4 := Lib.hid (ab_step HB3.out hK4); have HA4 := Lib.hid hA4; clear hA4 hK4))
  obtain ⟨o4, iv4, rm4, p4, n4, c4, lt4, p5, n5, c5, hs4, q4, hA4⟩ := HA4.out
  have HA5 := Lib.hid (alp_set (i := 2) (v := .string r3) hA4)
  have HB5 := Lib.hid (ab_step HB4.out ((Kp.refl _ _).setCell (x := ⟨w.heap.size + 1 + 1, 2, none⟩) (by simp) (.string r3)))
  obtain ⟨⟨x0, x1, x2, x3, x4, x5, x6, x7⟩, y0, y1, y2, y3, y4, y5, y6, y7⟩ := cells8 hA4
  clear hA4
  go_upto_region 15 with fail
  clear x0 x1 x2 x3 x4 x5 x6 x7 y0 y1 y2 y3 y4 y5 y6 y7
  have h5 := HA5.out
  simp only [List.setIfInBounds_toArray, List.set_cons_succ, List.set_cons_zero] at h5
  obtain ⟨⟨x0, x1, x2, x3, x4, x5, x6, x7⟩, y0, y1, y2, y3, y4, y5, y6, y7⟩ := cells8 h5
  clear h5
  have HB6 := Lib.hid HB5.out.below
  have HAT := Lib.hid HB5.out.at'
  have HT6 : Hid ((w4.setCell ⟨w.heap.size + 1 + 1, 2, none⟩ (.string r3)).there w.heap.size 0 8) := alp_there HB5.out.at'
  generalize (w4.setCell ⟨w.heap.size + 1 + 1, 2, none⟩ (.string r3)) = W at *
  go_wp2_with (first | (refine wpList_store_mid rfl 45 _ _ rfl w.heap.size 0 _ rfl rfl HT6.out inf45 (alp_ones _ _ _ _ _ _ _ _ _ _ _ _) ?_))
  have HZ : Hid ((W.setCells w.heap.size 0 [.string o4, .bool iv4, .string r3, .slice p4 n4 c4, .string lt4, .slice p5 n5 c5, .string hs4, .pointer q4]).rangeAt w.heap.size 0 [.string o4, .bool iv4, .string r3, .slice p4 n4 c4, .string lt4, .slice p5 n5 c5, .string hs4, .pointer q4]) :=
    World.rangeAt_setCells_same W w.heap.size 0 _ HT6.out
  have HB7 : Hid (Below w.heap.size w (W.setCells w.heap.size 0 [.string o4, .bool iv4, .string r3, .slice p4 n4 c4, .string lt4, .slice p5 n5 c5, .string hs4, .pointer q4])) :=
    below_setCells (Nat.le_refl _) _ _ HB6.out
  generalize (W.setCells w.heap.size 0 [.string o4, .bool iv4, .string r3, .slice p4 n4 c4, .string lt4, .slice p5 n5 c5, .string hs4, .pointer q4]) = W7 at HZ HB7 ⊢
  clear x0 x1 x2 x3 x4 x5 x6 x7 y0 y1 y2 y3 y4 y5 y6 y7
  obtain ⟨d, hd1, hd2⟩ := und45
  refine bodyPost_ret (res_cell_tmp Tryz.results22 rfl HZ.out hd1 hd2 inf45) rfl ?_
  exact ⟨_, rfl, HB7.out⟩
end Go.Proofs.YtoofphhfealcaaaGreatDoor
