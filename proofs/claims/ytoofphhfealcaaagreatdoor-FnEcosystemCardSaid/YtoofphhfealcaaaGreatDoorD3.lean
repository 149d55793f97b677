/-
  WALKS: Red Hat's versions.
  WALKS: versions like those of Semantic Versioning.
  WALKS: versions like those of Semantic Versioning: their components and build; the ecosystems of that sort.
-/
import Derived.Test.YtoofphhfealcaaaGreatDoorC9
import Derived.Test.YtoofphhfealcaaaGreatDoorB2
import Derived.Test.YtoofphhfealcaaaGreatDoorS
import Derived.Lib.OthersKept
import Derived.Deep.Onto
namespace Go.Proofs.YtoofphhfealcaaaGreatDoor
open Go.RowKit

def digR (c : Int) : Bool := decide (48 ≤ c) && decide (c ≤ 57)
theorem isASCIIDigit_any (c : Int) (w : World) : Calls Tryz.prog 67 #[.int .i32 c] w fun e w' => e = .returned (.bool (digR c)) ∧ w = w' := by
  by_cases h1 : 48 ≤ c
  · by_cases h2 : c ≤ 57
    · have HD : Hid (digR c = true) := by show _ = _; simp [digR, h1, h2]
      go_enter Tryz.func67, Tryz.ntmps67
      go_wp2_with fail
      go_ret
      exact ⟨by rw [HD.out]; rfl, rfl⟩
    · have HD : Hid (digR c = false) := by show _ = _; simp [digR]; omega
      go_enter Tryz.func67, Tryz.ntmps67
      go_wp2_with fail
      go_ret
      exact ⟨by rw [HD.out]; rfl, rfl⟩
  · have HD : Hid (digR c = false) := by show _ = _; simp [digR]; omega
    go_enter Tryz.func67, Tryz.ntmps67
    go_wp2_with fail
    go_ret
    exact ⟨by rw [HD.out]; rfl, rfl⟩
theorem width_pos (s : ByteArray) (pos : Nat) (h : pos < s.size) : 1 ≤ (Utf8.decode s pos).2 := by
  by_cases ha : (s[pos]'h).toNat < 128
  · rw [decode_ascii s pos h ha]
    exact Nat.le_refl _
  · exact (decode_high s pos h (by omega)).2

set_option maxHeartbeats 1000000 in
theorem isOnlyDigits_any (s : ByteArray) (w : World) : Calls Tryz.prog 39 #[.string s] w fun e w' => (∃ b, e = .returned (.bool b)) ∧ Below w.heap.size w w' := by
  go_enter Tryz.func39, Tryz.ntmps39
  go_wp2_with fail
  go_loopw [4] (fun _ w' => ∃ pos, w' = w.iter s pos) (fun _ w' => s.size - w'.iterPos w.heap.size)
  case atStart => exact ⟨0, rfl⟩
  case round =>
    obtain ⟨pos, rfl⟩ := hrel
    by_cases hp : pos < s.size
    · have hnx : ∀ ty, (Instr.next (.pointer (some ⟨w.heap.size, 0, none⟩)) true ty).run Tryz.prog (w.iter s pos) = _ := fun ty => run_next_any w s pos ty hp
      have hwd := width_pos s pos hp
      by_cases hd : digR (Utf8.decode s pos).1 = true
      · go_wp2_with (go_at_call 67; refine (isASCIIDigit_any _ _).mono ?_; rintro e w' ⟨rfl, rfl⟩)
        go_roundw
        case rel => exact ⟨_, rfl⟩
        case measure => simp; omega
      · have hd' : digR (Utf8.decode s pos).1 = false := by simpa using hd
        go_wp2_with (go_at_call 67; refine (isASCIIDigit_any _ _).mono ?_; rintro e w' ⟨rfl, rfl⟩)
        go_ret
        exact ⟨⟨_, rfl⟩, (Below.refl _ _).alloc (Nat.le_refl _) _⟩
    · have hnx : ∀ ty, (Instr.next (.pointer (some ⟨w.heap.size, 0, none⟩)) true ty).run Tryz.prog (w.iter s pos) = _ := fun ty => run_next_end w s pos ty hp
      go_wp2_with fail
      go_ret
      exact ⟨⟨_, rfl⟩, (Below.refl _ _).alloc (Nat.le_refl _) _⟩

/-- The result is a struct of some make, and of what was there nothing has changed. -/
def AggPost (w : World) (e : Ending) (w' : World) : Prop := (∃ cs, e = .returned (.agg cs)) ∧ Below w.heap.size w w'
theorem zzCut_some (s : ByteArray) (c : UInt8) (w : World) (hs : s.size ≤ 4294967296) :
    Calls Tryz.prog 38 #[.string s, .string (mk [c])] w fun e w' => ∃ x y b, e = .returned (.tuple #[.string x, .string y, .bool b]) ∧ ((x.size ≤ s.size ∧ y.size ≤ s.size) ∧ ∃ n, w' = w.drewN n) := by
  rcases first_or c (bs s) with h | ⟨i, h⟩
  · refine (zzCut_no s c w hs h).mono ?_
    rintro e w' ⟨rfl, rfl⟩
    exact ⟨_, _, _, rfl, ⟨Nat.le_refl _, by simp [mk_size]⟩, 0, rfl⟩
  · refine (zzCut_yes s c i w hs h).mono ?_
    rintro e w' ⟨rfl, n, rfl⟩
    exact ⟨_, _, _, rfl, ⟨by simp; omega, by simp⟩, n, rfl⟩
theorem bl_drewN {B : Nat} {a w : World} (h : Below B a w) (n : Nat) : Below B a (w.drewN n) := ⟨h.os, h.tape, h.output, h.size, h.block⟩
theorem bl_step {B : Nat} {a W w1 : World} (hb : Below W.heap.size W w1) (h : Below B a W) (hB : B ≤ W.heap.size) : Below B a w1 := h.trans (hb.mono hB)
theorem bcell {W w1 : World} (hb : Below W.heap.size W w1) : (∀ b o, b < W.heap.size → w1.cell? ⟨b, o, none⟩ = W.cell? ⟨b, o, none⟩) ∧ (∀ b o, b < W.heap.size → w1.frozen? ⟨b, o, none⟩ = W.frozen? ⟨b, o, none⟩) :=
  ⟨fun b o h => hb.cell (p := ⟨b, o, none⟩) h, fun b o h => hb.frozen (p := ⟨b, o, none⟩) h⟩
set_option maxHeartbeats 2000000 in
theorem parseRedHat_any (s : ByteArray) (w : World) (hs : s.size ≤ 1048576) : Calls Tryz.prog 21 #[.string s] w (AggPost w) := by
  go_enter Tryz.func21, Tryz.ntmps21
  go_wp2_with (first
    | (go_at_call 38; refine (zzCut_some _ _ _ (by omega)).mono ?_; rintro e w1 ⟨x, y, b, rfl, ⟨hx, hy⟩, n, rfl⟩; cases b)
    | (go_at_call 39; refine (isOnlyDigits_any _ _).mono ?_; rintro e w1 ⟨⟨b2, rfl⟩, hB⟩; obtain ⟨hc1, hf1⟩ := bcell hB; have HB := Lib.hid hB; have hsz := hB.size; simp at hsz; cases b2))
  all_goals refine bodyPost_ret (by simp [results, Tryz.results21, go_sem, *]; try rfl) rfl ?_
  all_goals refine ⟨⟨_, rfl⟩, ?_⟩
  all_goals repeat (first | exact Below.refl _ _ | (refine Below.setCell ?_ (by simp) _) | (refine bl_drewN ?_ _) | (refine Below.alloc ?_ (by simp) _) | (refine bl_step (by assumption) ?_ (by simp)))

end Go.Proofs.YtoofphhfealcaaaGreatDoor

namespace Go.Proofs.YtoofphhfealcaaaGreatDoor
open Go.RowKit

/-- Numbers in memory, behind a slice of pointers: their blocks and their digits. -/
structure Comps (w : World) (base : Nat) (v : Value) (l : List (Nat × List UInt8)) : Prop where
  own : w.ownsRow base 43 1 v l.length (l.map fun x => .pointer (some ⟨x.1, 0, none⟩))
  big : ∀ x ∈ l, base ≤ x.1 ∧ BigAt w base x.1 (mk x.2)
theorem bigAt_keep {w w1 : World} {base p : Nat} {s : ByteArray} (h : BigAt w base p s) {r : Option Nat} (hg : w.grownBy w1 r) (hr : ∀ k cs e f, r = some k → w.heap[k]? = some (.cells cs e f) → e ≠ 112 ∧ e ≠ 156) : BigAt w1 base p s := by
  obtain ⟨z, xs, n2, b1, b2, b3⟩ := h.ex
  refine ⟨z, xs, n2, ?_, ?_, b3⟩
  · unfold IntB at *
    rw [hg.block p (Array.getElem?_eq_some_iff.1 b1).1 (fun e => (hr p _ _ _ e.symm b1).1 rfl)]
    exact b1
  · refine b2.kept hg ?_
    rcases hb : z.ownBlock with _ | b
    · exact .inl rfl
    · refine .inr (fun e => ?_)
      rcases b2.2 with ⟨rfl, _⟩ | ⟨g, cap, cur, rfl, _, hh, _⟩
      · simp [Value.ownBlock] at hb
      · have : g = b := by simpa [Value.ownBlock] using hb
        subst this
        exact (hr g _ _ _ e.symm hh).2 rfl
theorem bigAt_below {w w1 : World} {base p : Nat} {s : ByteArray} (h : BigAt w base p s) (hb : Below w.heap.size w w1) : BigAt w1 base p s :=
  bigAt_keep h ⟨hb.os, hb.tape, hb.output, hb.size, fun i hi _ => hb.block i hi⟩ (r := none) (fun _ _ _ _ e => by cases e)
theorem comps_below {w w1 : World} {base : Nat} {v : Value} {l : List (Nat × List UInt8)} (h : Comps w base v l) (hb : Below w.heap.size w w1) : Comps w1 base v l :=
  ⟨h.own.kept ⟨hb.os, hb.tape, hb.output, hb.size, fun i hi _ => hb.block i hi⟩ (row := none) (by cases v.ownBlock <;> simp), fun x hx => ⟨(h.big x hx).1, bigAt_below (h.big x hx).2 hb⟩⟩
theorem own_row_type {w : World} {base : Nat} {e : TypeId} {sz n : Nat} {v : Value} {xs : List Value} (h : w.ownsRow base e sz v n xs) : ∀ k cs e' f, v.ownBlock = some k → w.heap[k]? = some (.cells cs e' f) → e' = e := by
  intro k cs e' f hk hc
  rcases h.2 with ⟨rfl, _⟩ | ⟨g, cap, cur, rfl, _, hh, _⟩
  · simp [Value.ownBlock] at hk
  · have : g = k := by simpa [Value.ownBlock] using hk
    subst this
    rw [hh] at hc
    injection hc with hc
    injection hc with _ h2
    exact h2.symm
theorem info43 : (Tryz.prog.info? 43).map (fun i => (i.zero, i.size, i.bytes)) = some (some (.pointer none), 1, 8) := by kernel_rfl
theorem und46 : Tryz.prog.underlying 46 = some (.slice 43) := by kernel_rfl
section
variable {ops : Array Oper} {rest : List Oper} {o : Oper} {a : Act} {Q : Exit → Act → World → Prop}
/-- append of one number. -/
theorem app_comp {w0 W : World} (base : Nat) (hgd : o.guard = none) (s x : Operand)
    (ho : o.op = .call { callee := .builtin .append, args := #[s, x], argTypes := #[46, 46] })
    (v : Value) (l : List (Nat × List UInt8)) (p : Nat) (d : List UInt8) (HO : Comps W base v l) (hp : base ≤ p) (hB : BigAt W base p (mk d)) (hs : a.eval s = v) (hx : a.eval x = .slice (some ⟨W.heap.size, 0, none⟩) 1 1)
    (HB : Below base w0 W) (hbase : base ≤ W.heap.size) (hl : l.length ≤ 8796093022207)
    (h : ∀ v1 w1, Comps w1 base v1 (l ++ [(p, d)]) → Below base w0 w1 → W.grownBy w1 v.ownBlock → wpList Tryz.prog ops Q rest (a.put o.dst v1) w1) :
    wpList Tryz.prog ops Q (o :: rest) a (W.alloc (.cells #[.pointer (some ⟨p, 0, none⟩)] 43)) :=
  app1 base hgd s x 46 43 (.pointer none) 1 8 ho und46 info43 rfl (by omega) (by omega) v l.length _ #[.pointer (some ⟨p, 0, none⟩)] hs hx rfl (by simp [Value.oneCell']) HO.own HB hbase (by omega)
    fun v1 w1 hown hB1 hg => h v1 w1 ⟨by simpa using hown, fun x hx => by
      have hr : ∀ k cs e f, v.ownBlock = some k → W.heap[k]? = some (.cells cs e f) → e ≠ 112 ∧ e ≠ 156 := fun k cs e f hk hc => by
        have := own_row_type HO.own k cs e f hk hc
        subst this
        exact ⟨by decide, by decide⟩
      rw [List.mem_append, List.mem_singleton] at hx
      rcases hx with hx | rfl
      · exact ⟨(HO.big x hx).1, bigAt_keep (HO.big x hx).2 hg hr⟩
      · exact ⟨hp, bigAt_keep hB hg hr⟩⟩ hB1 hg
end
theorem comps_nil (w : World) (base : Nat) : Comps w base (.slice none 0 0) [] := ⟨World.ownsRow_nil _ _ _ _, fun x hx => by simp at hx⟩

/-- A byte of the numbers: a digit or a point. -/
def dotDig (c : UInt8) : Bool := isDig c || c == 46
/-- Text of ASCII alone. -/
def Asc (l : List UInt8) : Prop := ∀ c ∈ l, c.toNat < 128

/-- How many bytes are no digits. -/
def nds (l : List UInt8) : Nat := l.countP fun c => !isDig c
theorem nds_le (l : List UInt8) : nds l ≤ l.length := List.countP_le_length
theorem nds_take {l : List UInt8} {pos : Nat} {c : UInt8} (h : l[pos]? = some c) : nds (l.take (pos + 1)) = nds (l.take pos) + (if isDig c then 0 else 1) := by
  unfold nds
  rw [List.take_add_one, h, List.countP_append]
  cases hc : isDig c <;> simp [hc]
theorem nds_pos (l : List UInt8) (pos : Nat) : nds (l.take pos) ≤ pos := Nat.le_trans (nds_le _) (by simp; omega)

/-- What parseSemverLike has in hand at pos. -/
structure Lk (w0 wr : World) (t : ByteArray) (kb pos : Nat) (v : Value) (cur : ByteArray) (fnd : Bool) (l : List (Nat × List UInt8)) : Prop where
  it : wr.heap[kb]? = some (.stringIter t pos)
  ple : pos ≤ t.size
  comps : Comps wr (w0.heap.size) v l
  below : Below w0.heap.size w0 wr
  curLen : cur.size ≤ pos
  len : l.length ≤ nds ((bs t).take pos)
  digs : ∀ x ∈ l, x.2 ≠ [] ∧ (∀ c ∈ x.2, isDig c = true) ∧ x.2.length ≤ t.size
  no : fnd = false → (∀ c ∈ (bs t).take pos, dotDig c = true) ∧ (∀ c ∈ bs cur, isDig c = true)
  yes : fnd = true → bs cur ≠ [] ∧ ∃ c ∈ bs t, dotDig c = false

theorem trimV (s p : ByteArray) (w : World) : Calls Tryz.prog 69 #[.string s, .string p] w fun e w' => ∃ t, e = .returned (.string t) ∧ bs t = Lib.trimPrefix (bs s) (bs p) ∧ w = w' := by
  refine (Tryz.strings_TrimPrefix s p w).mono ?_
  rintro e w' ⟨rfl, rfl⟩
  exact ⟨_, rfl, by simp [bs], rfl⟩
theorem hasV (s p : ByteArray) (w : World) : Calls Tryz.prog 112 #[.string s, .string p] w fun e w' => ∃ b, e = .returned (.bool b) ∧ w = w' := by
  refine (Tryz.strings_HasPrefix s p w).mono ?_
  rintro e w' ⟨rfl, rfl⟩
  exact ⟨_, rfl, rfl⟩
theorem asc_trim {l p : List UInt8} (h : Asc l) : Asc (Lib.trimPrefix l p) := by
  unfold Lib.trimPrefix
  split
  · intro c hc; exact h c (List.mem_of_mem_drop hc)
  · exact h
theorem iterAt_below {B : Nat} {a w : World} (h : Below B a w) {k : Nat} (hk : B ≤ k) (s : ByteArray) (pos : Nat) : Below B a (w.iterAt k s pos) := by
  refine h.trans ⟨rfl, rfl, rfl, by simp [World.iterAt], fun j hj => ?_⟩
  simp only [World.iterAt]
  rw [Array.getElem?_setIfInBounds_ne (by omega)]

theorem enc_asc (c : UInt8) (h : c.toNat < 128) : Utf8.encode (c.toNat : Int) = mk [c] := by
  have hv : Utf8.valid (c.toNat : Int) = true := by simp [Utf8.valid]; omega
  simp only [Utf8.encode, hv, if_true, Int.toNat_natCast]
  rw [if_pos h]
  simp [mk]
theorem bs_app (a b : ByteArray) : bs (a ++ b) = bs a ++ bs b := by simp [bs, ByteArray.data_append]
theorem app_size (a : ByteArray) (c : UInt8) : (a ++ mk [c]).size = a.size + 1 := by rw [← bs_len, bs_app, List.length_append, bs_len, bs_mk]; rfl
theorem grown_iter {w w1 : World} {v : Value} {e : TypeId} {sz n base kb pos : Nat} {xs : List Value} {t : ByteArray} (hc : w.ownsRow base e sz v n xs) (hg : w.grownBy w1 v.ownBlock) (hi : w.heap[kb]? = some (.stringIter t pos)) : w1.heap[kb]? = some (.stringIter t pos) := by
  rw [hg.block kb (Array.getElem?_eq_some_iff.1 hi).1 ?_]
  · exact hi
  · intro he
    rcases hc.2 with ⟨rfl, _⟩ | ⟨g, cap, cur, rfl, _, hh, _⟩
    · simp [Value.ownBlock] at he
    · have : kb = g := by simpa [Value.ownBlock] using he
      subst this
      rw [hh] at hi
      cases hi
theorem grown_at {w : World} {kb p2 : Nat} {t : ByteArray} : w.grownBy (w.iterAt kb t p2) (some kb) :=
  ⟨rfl, rfl, rfl, by simp [World.iterAt], fun k hk hn => by
    simp only [World.iterAt]
    rw [Array.getElem?_setIfInBounds_ne (fun h => hn (by rw [h]))]⟩
theorem own_iter {w : World} {v : Value} {e : TypeId} {sz n base kb pos : Nat} {xs : List Value} {t : ByteArray} (hc : w.ownsRow base e sz v n xs) (p2 : Nat) (hi : w.heap[kb]? = some (.stringIter t pos)) : (w.iterAt kb t p2).ownsRow base e sz v n xs := by
  refine hc.kept grown_at ?_
  rcases hb : v.ownBlock with _ | b
  · exact .inl rfl
  · refine .inr (fun h => ?_)
    have h : b = kb := by simpa using h
    subst h
    rcases hc.2 with ⟨rfl, _⟩ | ⟨g, cap, cur, rfl, _, hh, _⟩
    · simp [Value.ownBlock] at hb
    · have : g = b := by simpa [Value.ownBlock] using hb
      subst this
      rw [hh] at hi
      cases hi
theorem bigAt_iter {w : World} {base p kb pos : Nat} {s t : ByteArray} (h : BigAt w base p s) (p2 : Nat) (hi : w.heap[kb]? = some (.stringIter t pos)) : BigAt (w.iterAt kb t p2) base p s :=
  bigAt_keep h grown_at (fun k cs e f hk hc => by cases hk; rw [hi] at hc; cases hc)
theorem comps_iter {w : World} {base kb pos : Nat} {v : Value} {l : List (Nat × List UInt8)} {t : ByteArray} (h : Comps w base v l) (p2 : Nat) (hi : w.heap[kb]? = some (.stringIter t pos)) : Comps (w.iterAt kb t p2) base v l :=
  ⟨own_iter h.own p2 hi, fun x hx => ⟨(h.big x hx).1, bigAt_iter (h.big x hx).2 p2 hi⟩⟩
theorem bigAt_mono {w : World} {b0 base p : Nat} {s : ByteArray} (h : BigAt w base p s) (hb : b0 ≤ base) : BigAt w b0 p s := by
  obtain ⟨z, xs, n2, b1, b2, b3⟩ := h.ex
  exact ⟨z, xs, n2, b1, natO_mono b2 hb, b3⟩
/-- A text of digits alone, and not empty, is a number. -/
theorem isNum_digs {l : List UInt8} (h0 : l ≠ []) (h : ∀ c ∈ l, isDig c = true) : isNum l = true := by
  cases l with
  | nil => exact absurd rfl h0
  | cons c r =>
    have hc := h c (List.mem_cons_self ..)
    have hb : body (c :: r) = c :: r := by
      have h1 : c ≠ 45 := by rintro rfl; revert hc; decide
      have h2 : c ≠ 43 := by rintro rfl; revert hc; decide
      simp [body, isSign, h1, h2]
    unfold isNum
    rw [hb]
    simp only [List.isEmpty_cons, Bool.not_false, Bool.true_and, List.all_eq_true]
    exact h
theorem digR_dig (c : UInt8) : digR (c.toNat : Int) = isDig c := by
  unfold digR isDig
  rw [Bool.eq_iff_iff]
  simp only [Bool.and_eq_true, decide_eq_true_eq]
  omega
/-- Where the loop goes on: the byte is taken up. -/
theorem lk_take {w0 wr : World} {t : ByteArray} {kb pos : Nat} {v : Value} {cur : ByteArray} {fnd : Bool} {l : List (Nat × List UInt8)} {c : UInt8} (H : Lk w0 wr t kb pos v cur fnd l) (hkb : w0.heap.size ≤ kb) (hc : (bs t)[pos]? = some c) (hd : fnd = false → isDig c = true) : Lk w0 (wr.iterAt kb t (pos + 1)) t kb (pos + 1) v (cur ++ mk [c]) fnd l := by
  have hlt := (List.getElem?_eq_some_iff.1 hc).1
  rw [bs_len] at hlt
  refine ⟨Lib.iterAt_heap _ _ _ _ _ H.it, hlt, comps_iter H.comps _ H.it, iterAt_below H.below hkb _ _, by rw [app_size]; have := H.curLen; omega, by have := H.len; have := nds_take hc; omega, H.digs, ?_, ?_⟩
  · intro hf
    obtain ⟨h1, h2⟩ := H.no hf
    refine ⟨?_, ?_⟩
    · rw [List.take_add_one, hc]
      intro x hx
      rw [List.mem_append] at hx
      rcases hx with hx | hx
      · exact h1 x hx
      · have : x = c := by simpa using hx
        subst this
        simp [dotDig, hd hf]
    · rw [bs_app, bs_mk]
      intro x hx
      rw [List.mem_append, List.mem_singleton] at hx
      rcases hx with hx | rfl
      · exact h2 x hx
      · exact hd hf
  · intro hf
    refine ⟨?_, (H.yes hf).2⟩
    rw [bs_app, bs_mk]
    simp

theorem lk_next {w0 wr : World} {t : ByteArray} {kb pos : Nat} {v : Value} {cur : ByteArray} {fnd : Bool} {l : List (Nat × List UInt8)} {c : UInt8} (H : Lk w0 wr t kb pos v cur fnd l) (hkb : w0.heap.size ≤ kb) (hc : (bs t)[pos]? = some c) :
    (wr.iterAt kb t (pos + 1)).heap[kb]? = some (.stringIter t (pos + 1)) ∧ Comps (wr.iterAt kb t (pos + 1)) w0.heap.size v l ∧ Below w0.heap.size w0 (wr.iterAt kb t (pos + 1)) ∧ pos + 1 ≤ t.size ∧ l.length ≤ nds ((bs t).take pos) := by
  have hlt := (List.getElem?_eq_some_iff.1 hc).1
  rw [bs_len] at hlt
  exact ⟨Lib.iterAt_heap _ _ _ _ _ H.it, comps_iter H.comps _ H.it, iterAt_below H.below hkb _ _, hlt, H.len⟩
theorem errs_alloc {w : World} {a ae : Addr} (h : Errs w a ae) (o : Obj) : Errs (w.alloc o) a ae := kp_errs h (kp_alloc [] w o) (by simp)
theorem gl_of {w w1 : World} {a ae ai au : Addr} (h : Gl w a ae ai au) (hb : Below w.heap.size w w1) : Gl w1 a ae ai au := gl_below h hb
theorem ne_empty {s : ByteArray} (h : bs s ≠ []) : (s.toList == []) = false := by
  rw [ByteArray.toList_eq, beq_eq_false_iff_ne]
  exact h
theorem eq_empty {s : ByteArray} (h : bs s = []) : (s.toList == []) = true := by
  rw [ByteArray.toList_eq, beq_iff_eq]
  exact h
theorem lk_sep {w0 W : World} {t : ByteArray} {kb pos : Nat} {v : Value} {l : List (Nat × List UInt8)} (hi : W.heap[kb]? = some (.stringIter t pos)) (hc : Comps W w0.heap.size v l) (hb : Below w0.heap.size w0 W) (hp : pos ≤ t.size) (hl : l.length ≤ nds ((bs t).take pos))
    (hdg : ∀ x ∈ l, x.2 ≠ [] ∧ (∀ c ∈ x.2, isDig c = true) ∧ x.2.length ≤ t.size) (hno : ∀ c ∈ (bs t).take pos, dotDig c = true) : Lk w0 W t kb pos v (mk []) false l :=
  ⟨hi, hp, hc, hb, by rw [mk_size]; simp, hl, hdg, fun _ => ⟨hno, fun c hc => by simp [bs, mk] at hc⟩, fun h => by cases h⟩
theorem lk_bld {w0 W : World} {t : ByteArray} {kb pos : Nat} {v : Value} {l : List (Nat × List UInt8)} {c : UInt8} (hi : W.heap[kb]? = some (.stringIter t (pos + 1))) (hc : Comps W w0.heap.size v l) (hb : Below w0.heap.size w0 W) (hp : pos + 1 ≤ t.size) (hl : l.length ≤ nds ((bs t).take (pos + 1)))
    (hdg : ∀ x ∈ l, x.2 ≠ [] ∧ (∀ c ∈ x.2, isDig c = true) ∧ x.2.length ≤ t.size) (hx : (bs t)[pos]? = some c) (hn : dotDig c = false) : Lk w0 W t kb (pos + 1) v (mk [c]) true l :=
  ⟨hi, hp, hc, hb, by rw [mk_size]; simp, hl, hdg, (fun h => by cases h), fun _ => ⟨by rw [bs_mk]; simp, c, List.mem_of_getElem? hx, hn⟩⟩
theorem take_dot {t : ByteArray} {pos : Nat} {c : UInt8} (h : ∀ x ∈ (bs t).take pos, dotDig x = true) (hx : (bs t)[pos]? = some c) (hc : dotDig c = true) : ∀ x ∈ (bs t).take (pos + 1), dotDig x = true := by
  rw [List.take_add_one, hx]
  intro x hx
  rw [List.mem_append] at hx
  rcases hx with hx | hx
  · exact h x hx
  · have : x = c := by simpa using hx
    rw [this]
    exact hc
theorem digs_snoc {l : List (Nat × List UInt8)} {n p : Nat} {d : List UInt8} (h : ∀ x ∈ l, x.2 ≠ [] ∧ (∀ c ∈ x.2, isDig c = true) ∧ x.2.length ≤ n) (h0 : d ≠ []) (h1 : ∀ c ∈ d, isDig c = true) (h2 : d.length ≤ n) : ∀ x ∈ l ++ [(p, d)], x.2 ≠ [] ∧ (∀ c ∈ x.2, isDig c = true) ∧ x.2.length ≤ n := by
  intro x hx
  rw [List.mem_append, List.mem_singleton] at hx
  rcases hx with hx | rfl
  · exact h x hx
  · exact ⟨h0, h1, h2⟩
/-- The number that SetString made, behind the slice that append takes. -/
theorem comp_big {w0 w1 : World} {ib k : Nat} {cur : ByteArray} (hB : BigAt w1 k ib cur) (hw : w0.heap.size ≤ k) : BigAt w1 w0.heap.size ib (mk (bs cur)) := by
  rw [mk_bs]
  exact bigAt_mono hB hw
theorem kp_keep {W w1 : World} {k : Nat} {o : Obj} (hK : Kp [W.heap.size, k] (W.alloc o) w1) (hk : W.heap.size ≤ k) : Below W.heap.size W w1 :=
  kp_new hK ((Below.refl _ _).alloc (Nat.le_refl _) _) (by simp; omega)
theorem dot_yes {c : UInt8} (h : c.toNat = 46) : dotDig c = true := by
  have : c = 46 := UInt8.toNat_inj.1 h
  subst this
  rfl
theorem dot_no {c : UInt8} (hd : isDig c = false) (h : c.toNat ≠ 46) : dotDig c = false := by
  have : c ≠ 46 := by rintro rfl; exact h rfl
  simp [dotDig, hd, this]
/-- The world with the result's cell. -/
abbrev w49 (w : World) : World := w.alloc (.cells #[.bool false, .slice none 0 0, .string (mk []), .string (mk [])] 49)
theorem w49_size (w : World) : (w49 w).heap.size = w.heap.size + 1 := by simp
theorem comps_slice {w : World} {base : Nat} {v : Value} {l : List (Nat × List UInt8)} (h : Comps w base v l) : ∃ p n c, v = .slice p n c := by
  rcases h.own.2 with ⟨rfl, _⟩ | ⟨g, cap, cur, rfl, _⟩
  · exact ⟨_, _, _, rfl⟩
  · exact ⟨_, _, _, rfl⟩
theorem comps_mono {w : World} {b0 base : Nat} {v : Value} {l : List (Nat × List UInt8)} (h : Comps w base v l) (hb : b0 ≤ base) : Comps w b0 v l :=
  ⟨World.ownsRow.mono h.own hb, fun x hx => ⟨Nat.le_trans hb (h.big x hx).1, bigAt_mono (h.big x hx).2 hb⟩⟩
theorem w49_cells {w wr : World} (h : Below (w49 w).heap.size (w49 w) wr) : wr.heap[w.heap.size]? = some (.cells #[.bool false, .slice none 0 0, .string (mk []), .string (mk [])] 49) := by
  rw [h.block _ (by simp)]
  exact heap_alloc_new w _
theorem w49_at {w wr : World} (h : Below (w49 w).heap.size (w49 w) wr) : wr.cell? ⟨w.heap.size, 0, none⟩ = some (.bool false) ∧ wr.cell? ⟨w.heap.size, 1, none⟩ = some (.slice none 0 0) ∧ wr.cell? ⟨w.heap.size, 2, none⟩ = some (.string (mk [])) ∧ wr.cell? ⟨w.heap.size, 3, none⟩ = some (.string (mk []))
    ∧ wr.frozen? ⟨w.heap.size, 0, none⟩ = false ∧ wr.frozen? ⟨w.heap.size, 1, none⟩ = false ∧ wr.frozen? ⟨w.heap.size, 2, none⟩ = false ∧ wr.frozen? ⟨w.heap.size, 3, none⟩ = false := by
  have hc := w49_cells h
  refine ⟨?_, ?_, ?_, ?_, ?_, ?_, ?_, ?_⟩ <;> simp [World.cell?, World.frozen?, hc]
/-- The result of parseSemverLike. -/
def SvPost (w : World) (t : ByteArray) (e : Ending) (w' : World) : Prop :=
  ∃ b v bld org l, e = .returned (.agg #[.bool b, v, .string bld, .string org]) ∧ Comps w' w.heap.size v l ∧ (l.length ≤ t.size + 1 ∧ l.length ≤ nds (Lib.trimPrefix (bs t) [118]) + 1) ∧ bld.size ≤ t.size ∧ (∀ x ∈ l, x.2 ≠ [] ∧ (∀ c ∈ x.2, isDig c = true) ∧ x.2.length ≤ t.size) ∧ (bs bld = [] ↔ ∀ c ∈ Lib.trimPrefix (bs t) [118], dotDig c = true) ∧ Below w.heap.size w w'

theorem grown_cell (w : World) (k o : Nat) (x : Value) : w.grownBy (w.setCell ⟨k, o, none⟩ x) (some k) :=
  ⟨rfl, rfl, rfl, by simp, fun j hj hn => Below.heap_setCell w ⟨k, o, none⟩ x j (fun h => hn (by rw [h]))⟩
theorem bigAt_set {w : World} {base p : Nat} {s : ByteArray} (h : BigAt w base p s) {k : Nat} (hp : base ≤ p) (hk : k < base) (o : Nat) (x : Value) : BigAt (w.setCell ⟨k, o, none⟩ x) base p s := by
  obtain ⟨z, xs, n2, b1, b2, b3⟩ := h.ex
  have hg := grown_cell w k o x
  refine ⟨z, xs, n2, ?_, ?_, b3⟩
  · unfold IntB at *
    rw [hg.block p (Array.getElem?_eq_some_iff.1 b1).1 (fun e => by cases e; omega)]
    exact b1
  · refine b2.kept hg ?_
    rcases hb : z.ownBlock with _ | b
    · exact .inl rfl
    · refine .inr (fun e => ?_)
      rcases b2.2 with ⟨rfl, _⟩ | ⟨g, cap, cur, rfl, h2, hh, _⟩
      · simp [Value.ownBlock] at hb
      · have : g = b := by simpa [Value.ownBlock] using hb
        subst this
        cases e
        omega
theorem comps_set {w : World} {base : Nat} {v : Value} {l : List (Nat × List UInt8)} (h : Comps w base v l) {k : Nat} (hk : k < base) (o : Nat) (x : Value) : Comps (w.setCell ⟨k, o, none⟩ x) base v l := by
  refine ⟨h.own.kept (grown_cell w k o x) ?_, fun y hy => ⟨(h.big y hy).1, bigAt_set (h.big y hy).2 (h.big y hy).1 hk o x⟩⟩
  rcases hb : v.ownBlock with _ | b
  · exact .inl rfl
  · refine .inr (fun e => ?_)
    rcases h.own.2 with ⟨rfl, _⟩ | ⟨g, cap, cur, rfl, h2, hh, _⟩
    · simp [Value.ownBlock] at hb
    · have : g = b := by simpa [Value.ownBlock] using hb
      subst this
      cases e
      omega
theorem sv_post {w W : World} {v : Value} {l : List (Nat × List UInt8)} {s bld : ByteArray} {b : Bool} {t : ByteArray} (hts : t.size ≤ s.size) (hc : Comps W (w49 w).heap.size v l) (hb : Below (w49 w).heap.size (w49 w) W) (hl : l.length ≤ nds (bs t) + 1) (hbl : bld.size ≤ t.size)
    (hd : ∀ x ∈ l, x.2 ≠ [] ∧ (∀ c ∈ x.2, isDig c = true) ∧ x.2.length ≤ t.size) (ht : bs t = Lib.trimPrefix (bs s) (bs ⟨#[118]⟩)) (hi : bs bld = [] ↔ ∀ c ∈ bs t, dotDig c = true) :
    SvPost w s (.returned (.agg #[.bool b, v, .string bld, .string s])) ((((W.setCell ⟨w.heap.size, 0, none⟩ (.bool b)).setCell ⟨w.heap.size, 1, none⟩ v).setCell ⟨w.heap.size, 2, none⟩ (.string bld)).setCell ⟨w.heap.size, 3, none⟩ (.string s)) := by
  have h1 : w.heap.size < (w49 w).heap.size := by simp
  refine ⟨_, _, _, _, l, rfl, comps_mono (comps_set (comps_set (comps_set (comps_set hc h1 _ _) h1 _ _) h1 _ _) h1 _ _) (by omega), ⟨by have := nds_le (bs t); rw [bs_len] at this; omega, by rw [ht] at hl; exact hl⟩, by omega, fun x hx => ⟨(hd x hx).1, (hd x hx).2.1, by have := (hd x hx).2.2; omega⟩, by rw [hi, ht]; rfl, ?_⟩
  refine Below.setCell (Below.setCell (Below.setCell (Below.setCell ?_ (by simp) _) (by simp) _) (by simp) _) (by simp) _
  exact ((Below.refl w.heap.size w).alloc (Nat.le_refl _) _).trans (hb.mono (by omega))

theorem iff_no {w0 wr : World} {t : ByteArray} {kb pos : Nat} {v : Value} {cur bld : ByteArray} {l : List (Nat × List UInt8)} (H : Lk w0 wr t kb pos v cur false l) (hp : ¬ pos < t.size) (hb : bs bld = []) : bs bld = [] ↔ ∀ c ∈ bs t, dotDig c = true := by
  have h1 := (H.no rfl).1
  rw [List.take_of_length_le (by rw [bs_len]; omega)] at h1
  exact ⟨fun _ => h1, fun _ => hb⟩
theorem iff_yes {w0 wr : World} {t : ByteArray} {kb pos : Nat} {v : Value} {cur : ByteArray} {l : List (Nat × List UInt8)} (H : Lk w0 wr t kb pos v cur true l) : bs cur = [] ↔ ∀ c ∈ bs t, dotDig c = true := by
  obtain ⟨h1, c, h2, h3⟩ := H.yes rfl
  exact ⟨fun h => absurd h h1, fun h => by rw [h c h2] at h3; cases h3⟩

set_option maxRecDepth 100000 in
set_option maxHeartbeats 8000000 in
theorem semverLike_any (s : ByteArray) (w : World) (a ae ai au : Addr) (hG : Gl w a ae ai au) (hs : s.size ≤ 1048576) (ha : Asc (bs s)) : Calls Tryz.prog 75 #[.string s] w (SvPost w s) := by
  have HG := Lib.hid hG
  have HA := Lib.hid ha
  clear hG ha
  go_enter Tryz.func75, Tryz.ntmps75
  go_wp2_with (first
    | (go_at_call 112; refine (hasV _ _ _).mono ?_; rintro e w1 ⟨b, rfl, rfl⟩)
    | (go_at_call 69; refine (trimV _ _ _).mono ?_; rintro e w1 ⟨t, rfl, ht, rfl⟩; have HT := Lib.hid ht; clear ht))
  have hts : t.size ≤ s.size := by
    have h1 := bs_len t
    have h2 := Lib.trimPrefix_le (bs s) (bs (⟨#[118]⟩ : ByteArray))
    have h3 := bs_len s
    rw [← h1, HT.out]
    omega
  have HAT : Hid (Asc (bs t)) := by have := asc_trim (p := bs (⟨#[118]⟩ : ByteArray)) HA.out; rw [← HT.out] at this; exact this
  go_loopw [3, 5, 6] (fun v cu fo wr => ∃ (cur : ByteArray) (fnd : Bool) (pos : Nat) (l : List (Nat × List UInt8)), cu = .string cur ∧ fo = .bool fnd ∧ pos ≤ t.size ∧ cur.size ≤ pos ∧ Hid (Lk (w49 w) wr t (w.heap.size + 1) pos v cur fnd l))
    (fun _ _ _ wr => t.size - wr.iterPos (w.heap.size + 1))
  case atStart => exact ⟨_, false, 0, [], rfl, rfl, by omega, Nat.le_refl _, ⟨by have h := World.iter_heap (w49 w) t 0; simpa [w49, mk] using h, by omega, comps_nil _ _, (Below.refl _ _).alloc (Nat.le_refl _) _, Nat.le_refl _, by simp, fun x hx => by simp at hx, fun _ => ⟨by simp, fun c hc => by cases hc⟩, fun h => by cases h⟩⟩
  case round =>
    obtain ⟨cur, fnd, pos, l, rfl, rfl, hpos, hcur, HL⟩ := hrel
    have hw49 := w49_size w
    have hip : wr.iterPos (w.heap.size + 1) = pos := by rw [World.iterPos, HL.out.it]
    have hip2 : ∀ p2, (wr.iterAt (w.heap.size + 1) t p2).iterPos (w.heap.size + 1) = p2 := fun p2 => by rw [World.iterPos, Lib.iterAt_heap _ _ _ _ _ HL.out.it]
    by_cases hp : pos < t.size
    · have hca := HAT.out (t[pos]'hp) (by rw [bs_get t pos hp]; exact List.getElem_mem _)
      have hnx0 := fun ty => Lib.run_next_ascii_at (P := Tryz.prog) wr (w.heap.size + 1) t pos ty HL.out.it hp hca
      have HC : Hid ((bs t)[pos]? = some (t[pos]'hp)) := by
        have h1 := bs_get t pos hp
        have h2 : pos < (bs t).length := by rw [bs_len]; exact hp
        show _ = _
        rw [h1, List.getElem?_eq_getElem h2]
      generalize (t[pos]'hp) = c at hnx0 hca HC
      have hnx : ∀ ty, (Instr.next (.pointer (some ⟨w.heap.size + 1, 0, none⟩)) true ty).run Tryz.prog wr = .ok (.tuple #[.bool true, .int .i64 pos, .int .i32 c.toNat]) (wr.iterAt (w.heap.size + 1) t (pos + 1)) := hnx0
      have HCA := Lib.hid hca
      have hen := enc_asc c hca
      have hadd := fun W => run_string_add_sum (P := Tryz.prog) (w := W) cur (mk [c]) (by rw [mk_size]; simp; omega)
      clear hca hnx0
      cases fnd
      · cases hdc : isDig c
        · have hdg : digR (c.toNat : Int) = false := by rw [digR_dig]; exact hdc
          have HI := Lib.hid (intB_new (wr.iterAt (w.heap.size + 1) t (pos + 1)))
          have HLB := Lib.hid ((lk_next HL.out (by omega) HC.out))
          have hww := HLB.out.2.2.1.size
          have hwz : 20 ≤ (wr.iterAt (w.heap.size + 1) t (pos + 1)).heap.size := by rw [Lib.iterAt_size]; exact by have h1 := HG.out.size; have h2 := HL.out.below.size; omega
          have HE := Lib.hid ((gl_of (gl_of HG.out ((Below.refl _ _).alloc (Nat.le_refl _) _)) HLB.out.2.2.1).toErrs)
          have HLI := Lib.hid HLB.out.2.2.2.2
          have hlp : l.length ≤ pos := Nat.le_trans HLI.out (nds_pos _ _)
          have HLI1 : Hid (nds ((bs t).take (pos + 1)) = nds ((bs t).take pos) + 1) := by have := nds_take HC.out; rw [hdc] at this; exact this
          have HD := Lib.hid hdc
          clear hdc
          have HNO := Lib.hid (HL.out.no rfl)
          by_cases hce : bs cur = []
          · have hne := eq_empty hce
            have HCE : Hid (cur = mk []) := bs_inj (by rw [hce, bs_mk])
            clear hce hadd
            by_cases hdot : c.toNat = 46
            · have hdb : ((c.toNat : Int) == 46) = true := by rw [beq_iff_eq]; omega
              have HDD : Hid (dotDig c = true) := dot_yes hdot
              clear hdot
              go_wp2_with (go_at_call 67; refine (isASCIIDigit_any _ _).mono ?_; rintro e w' ⟨rfl, rfl⟩)
              go_roundw
              case rel => exact ⟨cur, false, pos + 1, l, rfl, rfl, by omega, by omega, by rw [HCE.out]; exact lk_sep HLB.out.1 HLB.out.2.1 HLB.out.2.2.1 hp (by rw [HLI1.out]; have := HLI.out; omega) HL.out.digs (take_dot HNO.out.1 HC.out HDD.out)⟩
              case measure => rw [hip, hip2]; omega
            · have hdb : ((c.toNat : Int) == 46) = false := by rw [beq_eq_false_iff_ne]; omega
              have HDD : Hid (dotDig c = false) := dot_no HD.out hdot
              clear hdot
              go_wp2_with (go_at_call 67; refine (isASCIIDigit_any _ _).mono ?_; rintro e w' ⟨rfl, rfl⟩)
              go_roundw
              case rel => exact ⟨_, _, _, _, rfl, rfl, by omega, by rw [mk_size]; simp, lk_bld HLB.out.1 HLB.out.2.1 HLB.out.2.2.1 hp (by rw [HLI1.out]; have := HLI.out; omega) HL.out.digs HC.out HDD.out⟩
              case measure => rw [hip, hip2]; omega
          · have hne := ne_empty hce
            have HNE := Lib.hid hce
            clear hce hadd
            go_upto_region 17 with (first
              | (go_at_call 67; refine (isASCIIDigit_any _ _).mono ?_; rintro e w' ⟨rfl, rfl⟩)
              | (go_at_call 47; go_loud (refine (setString_yes (wr.iterAt (w.heap.size + 1) t (pos + 1)).heap.size cur _ a ae HI.out (errs_alloc HE.out _) (by simp; omega) (by omega) (by omega) (isNum_digs HNE.out HNO.out.2)).mono ?_); rintro e w1 ⟨rfl, b1, b2⟩; have HB := Lib.hid b1; have HK := Lib.hid (kp_keep b2 (by simp)); clear b1 b2)
              | (at_builtin; go_loud (refine app_comp (w0 := w49 w) (W := w1) (w49 w).heap.size rfl _ _ rfl _ l _ (bs cur) (comps_below HLB.out.2.1 HK.out) (by omega) (comp_big HB.out (by simp; omega)) rfl rfl (HLB.out.2.2.1.trans (HK.out.mono (by omega))) (by have := HK.out.size; omega) (by omega) ?_); intro v1 w2 hc2 hb2 hg2; have HC2 := Lib.hid hc2; have HB2 := Lib.hid hb2; have HG2 := Lib.hid hg2; clear hc2 hb2 hg2))
            have hw2 : w1.heap.size ≤ w2.heap.size := HG2.out.size
            have HIT : Hid (w2.heap[w.heap.size + 1]? = some (.stringIter t (pos + 1))) := grown_iter (comps_below HLB.out.2.1 HK.out).own HG2.out (by rw [HK.out.block _ (Array.getElem?_eq_some_iff.1 HLB.out.1).1]; exact HLB.out.1)
            have hip3 : w2.iterPos (w.heap.size + 1) = pos + 1 := by rw [World.iterPos, HIT.out]
            have HLI2 : Hid ((l ++ [((wr.iterAt (w.heap.size + 1) t (pos + 1)).heap.size, bs cur)]).length ≤ nds ((bs t).take (pos + 1))) := by have := HLI.out; show _ ≤ _; rw [HLI1.out]; simp; omega
            have HDG : Hid (∀ x ∈ l ++ [((wr.iterAt (w.heap.size + 1) t (pos + 1)).heap.size, bs cur)], x.2 ≠ [] ∧ (∀ c ∈ x.2, isDig c = true) ∧ x.2.length ≤ t.size) := digs_snoc HL.out.digs HNE.out HNO.out.2 (by rw [bs_len]; omega)
            by_cases hdot : c.toNat = 46
            · have hdb : ((c.toNat : Int) == 46) = true := by rw [beq_iff_eq]; omega
              have HDD : Hid (dotDig c = true) := dot_yes hdot
              clear hdot
              go_wp2_with fail
              go_roundw
              case rel => exact ⟨mk [], false, _, _, rfl, rfl, by omega, Nat.zero_le _, lk_sep HIT.out HC2.out HB2.out hp HLI2.out HDG.out (take_dot HNO.out.1 HC.out HDD.out)⟩
              case measure => rw [hip, hip3]; omega
            · have hdb : ((c.toNat : Int) == 46) = false := by rw [beq_eq_false_iff_ne]; omega
              have HDD : Hid (dotDig c = false) := dot_no HD.out hdot
              clear hdot
              go_wp2_with fail
              go_roundw
              case rel => exact ⟨_, _, _, _, rfl, rfl, by omega, by rw [mk_size]; simp, lk_bld HIT.out HC2.out HB2.out hp HLI2.out HDG.out HC.out HDD.out⟩
              case measure => rw [hip, hip3]; omega
        · have hdg : digR (c.toNat : Int) = true := by rw [digR_dig]; exact hdc
          have HD := Lib.hid hdc
          clear hdc
          go_wp2_with (go_at_call 67; refine (isASCIIDigit_any _ _).mono ?_; rintro e w' ⟨rfl, rfl⟩)
          go_roundw
          case rel => exact ⟨_, _, _, _, rfl, rfl, by omega, by rw [app_size]; omega, lk_take HL.out (by omega) HC.out (fun _ => HD.out)⟩
          case measure => rw [hip, hip2]; omega
      · go_wp2_with fail
        refine ⟨⟨_, _, _, _, rfl, rfl, by omega, by rw [app_size]; omega, lk_take HL.out (by omega) HC.out (fun h => by cases h)⟩, ?_⟩
        rw [hip, hip2]; omega
    · have hnx : ∀ ty, (Instr.next (.pointer (some ⟨w.heap.size + 1, 0, none⟩)) true ty).run Tryz.prog wr = _ := fun ty => Lib.run_next_end_at wr (w.heap.size + 1) t pos ty HL.out.it hp
      have hww := HL.out.below.size
      have HLN : Hid (l.length ≤ nds (bs t)) := by have := HL.out.len; rw [List.take_of_length_le (by rw [bs_len]; omega)] at this; exact this
      have hlen : l.length ≤ t.size := by have := nds_le (bs t); have := HLN.out; rw [bs_len] at *; omega
      have HE := Lib.hid ((gl_of (gl_of HG.out ((Below.refl _ _).alloc (Nat.le_refl _) _)) HL.out.below).toErrs)
      have hw20 := HG.out.size
      obtain ⟨vp, vn, vc, rfl⟩ := comps_slice HL.out.comps
      cases fnd
      · by_cases hce : bs cur = []
        · have hne := eq_empty hce
          have HCE := Lib.hid (iff_no HL.out hp hce)
          clear hce
          obtain ⟨c0, c1, c2, c3, f0, f1, f2, f3⟩ := w49_at HL.out.below
          go_wp2_with fail
          refine bodyPost_ret (by simp [results, Tryz.results75, go_sem, *]; try rfl) rfl ?_
          exact sv_post hts HL.out.comps HL.out.below (by have := HLN.out; omega) (by omega) HL.out.digs HT.out HCE.out
        · have hne := ne_empty hce
          have HNE := Lib.hid hce
          have HNO := Lib.hid (HL.out.no rfl)
          have HI := Lib.hid (intB_new wr)
          clear hce
          go_wp2_with (first
              | (go_at_call 47; go_loud (refine (setString_yes wr.heap.size cur _ a ae HI.out (errs_alloc HE.out _) (by simp; omega) (by omega) (by omega) (isNum_digs HNE.out HNO.out.2)).mono ?_); rintro e w1 ⟨rfl, b1, b2⟩; have HB := Lib.hid b1; have HK := Lib.hid (kp_keep b2 (by simp)); clear b1 b2)
              | (at_builtin; go_loud (refine app_comp (w0 := w49 w) (W := w1) (w49 w).heap.size rfl _ _ rfl _ l _ (bs cur) (comps_below HL.out.comps HK.out) (by omega) (comp_big HB.out (by simp; omega)) rfl rfl (HL.out.below.trans (HK.out.mono (by omega))) (by have := HK.out.size; omega) (by omega) ?_); intro v1 w2 hc2 hb2 hg2; obtain ⟨c0, c1, c2, c3, f0, f1, f2, f3⟩ := w49_at hb2; obtain ⟨vp2, vn2, vc2, rfl⟩ := comps_slice hc2; have HC2 := Lib.hid hc2; have HB2 := Lib.hid hb2; have HG2 := Lib.hid hg2; clear hc2 hb2 hg2))
          refine bodyPost_ret (by simp [results, Tryz.results75, go_sem, *]; try rfl) rfl ?_
          exact sv_post hts HC2.out HB2.out (by have := HLN.out; rw [List.length_append]; simp; omega) (Nat.zero_le _) (digs_snoc HL.out.digs HNE.out HNO.out.2 (by rw [bs_len]; omega)) HT.out (iff_no HL.out hp rfl)
      · obtain ⟨c0, c1, c2, c3, f0, f1, f2, f3⟩ := w49_at HL.out.below
        go_wp2_with fail
        refine bodyPost_ret (by simp [results, Tryz.results75, go_sem, *]; try rfl) rfl ?_
        exact sv_post hts HL.out.comps HL.out.below (by have := HLN.out; omega) (by omega) HL.out.digs HT.out (iff_yes HL.out)
end Go.Proofs.YtoofphhfealcaaaGreatDoor

namespace Go.Proofs.YtoofphhfealcaaaGreatDoor
open Go.RowKit

/-- What fetchComponentsAndBuild answers for at most n components. -/
def FcbOK (n : Int) (t : ByteArray) : Prop :=
  ∀ (W : World) (k base : Nat) (v : Value) (l : List (Nat × List UInt8)) (b : Bool) (bld org : ByteArray) (a ae ai au : Addr), Gl W a ae ai au → W.heap[k]? = some (.cells #[.bool b, v, .string bld, .string org] 49) → 20 ≤ k → Comps W base v l →
    l.length ≤ t.size + 1 → l.length ≤ nds (Lib.trimPrefix (bs t) [118]) + 1 → bld.size ≤ t.size → (∀ x ∈ l, x.2 ≠ [] ∧ (∀ c ∈ x.2, isDig c = true) ∧ x.2.length ≤ t.size) →
    Calls Tryz.prog 76 #[.pointer (some ⟨k, 0, none⟩), .int .i64 n] W fun e w' => ∃ p m c b2, e = .returned (.tuple #[.slice p m c, .string b2]) ∧ (n = -1 → b2 = bld) ∧ Below W.heap.size W w'

set_option maxHeartbeats 2000000 in
theorem fcb_small (n : Int) (t : ByteArray) (h : n = -1 ∨ (nds (Lib.trimPrefix (bs t) [118]) + 1 : Nat) ≤ n) : FcbOK n t := by
  intro W k base v l b bld org a ae ai au HG hk h20 hc hl1 hl2 hb hd
  obtain ⟨p, m, c, rfl⟩ := comps_slice hc
  have hm : m = l.length := by
    rcases hc.own.2 with ⟨h1, h2⟩ | ⟨g, cap, cur, h1, _⟩
    · cases h1; omega
    · cases h1; rfl
  have c1 : W.cell? ⟨k, 1, none⟩ = some (.slice p m c) := by rw [Lib.cell_of_heap hk]; rfl
  have c2 : W.cell? ⟨k, 2, none⟩ = some (.string bld) := by rw [Lib.cell_of_heap hk]; rfl
  by_cases h0 : n = -1
  · subst h0
    go_enter Tryz.func76, Tryz.ntmps76
    go_wp2_with fail
    go_quiet (fail)
    go_wp2_with fail
    go_ret2
    exact ⟨_, _, _, _, rfl, fun _ => rfl, bl_drewN (Below.refl _ _) _⟩
  · have h1 : (n == -1) = false := by rw [beq_eq_false_iff_ne]; exact h0
    have h2 : (m : Int) ≤ n := by
      rcases h with h | h
      · exact absurd h h0
      · omega
    clear h
    go_enter Tryz.func76, Tryz.ntmps76
    go_wp2_with fail
    go_quiet (fail)
    go_wp2_with fail
    go_ret2
    exact ⟨_, _, _, _, rfl, fun _ => rfl, bl_drewN (Below.refl _ _) _⟩

/-- The result of a parser of this sort. -/
def LikePost (w : World) (n : Int) (t : ByteArray) (e : Ending) (w' : World) : Prop :=
  ∃ b p m c bld org, e = .returned (.agg #[.bool b, .slice p m c, .string bld, .string org]) ∧ (n = -1 → (bs bld = [] ↔ ∀ c ∈ Lib.trimPrefix (bs t) [118], dotDig c = true)) ∧ Below w.heap.size w w'

set_option maxHeartbeats 4000000 in
theorem parseLike_any (n : Int) (s : ByteArray) (w : World) (a ae ai au : Addr) (hF : FcbOK n s) (hG : Gl w a ae ai au) (hs : s.size ≤ 1048576) (ha : Asc (bs s)) : Calls Tryz.prog 45 #[.string s, .int .i64 n] w (LikePost w n s) := by
  have HF := Lib.hid hF; have HG := Lib.hid hG; have HA := Lib.hid ha
  have HG1 := Lib.hid (gl_of hG ((Below.refl _ _).alloc (Nat.le_refl _) (.cells #[.bool false, .slice none 0 0, .string (mk []), .string (mk [])] 49)))
  have hw20 := hG.size
  clear hF hG ha
  go_enter Tryz.func45, Tryz.ntmps45
  go_wp2_with (first
    | (go_at_call 75; go_loud (refine (semverLike_any s _ a ae ai au HG1.out hs HA.out).mono ?_); rintro e w1 ⟨b, v, bld, org, l, rfl, hc, hl, hb, hd, hi, hB⟩; obtain ⟨p, m, c, rfl⟩ := comps_slice hc; obtain ⟨q0, q1, q2, q3, r0, r1, r2, r3⟩ := w49_at hB; have HC := Lib.hid hc; have HL := Lib.hid hl; have HB := Lib.hid hB; have HD := Lib.hid hd; have HI := Lib.hid hi; clear hc hl hd hi hB)
    | (go_at_call 76; go_loud (refine (HF.out _ _ (w49 w).heap.size _ l b bld org a ae ai au (gl_below (gl_below HG1.out HB.out) ((Below.refl _ _).alloc (Nat.le_refl _) _)) (heap_alloc_new w1 _) (by have := HB.out.size; simp at this; omega) (comps_below HC.out ((Below.refl _ _).alloc (Nat.le_refl _) _)) HL.out.1 HL.out.2 hb HD.out).mono ?_); rintro e w2 ⟨p2, m2, k2, b2, rfl, hn2, hB2⟩; obtain ⟨s0, s1, s2, s3, t0, t1, t2, t3⟩ := w49_at (HB.out.trans ((((Below.refl w1.heap.size w1).alloc (Nat.le_refl _) (.cells #[.bool b, .slice p m c, .string bld, .string org] 49)).trans (hB2.mono (by simp))).mono HB.out.size)); have hk2 : w2.heap[w1.heap.size]? = some (.cells #[.bool b, .slice p m c, .string bld, .string org] 49) := (by rw [hB2.block _ (by simp)]; exact heap_alloc_new w1 _); have g0 : w2.cell? ⟨w1.heap.size, 0, none⟩ = some (.bool b) := (by rw [Lib.cell_of_heap hk2]; rfl); have g3 : w2.cell? ⟨w1.heap.size, 3, none⟩ = some (.string org) := (by rw [Lib.cell_of_heap hk2]; rfl); have HB2 := Lib.hid hB2; have HN2 := Lib.hid hn2; clear hB2 hn2 hk2))
  refine bodyPost_ret (by simp [results, Tryz.results45, go_sem, *]; try rfl) rfl ?_
  refine ⟨_, _, _, _, _, _, rfl, fun hn => by rw [HN2.out hn]; exact HI.out, ?_⟩
  refine Below.setCell (Below.setCell (Below.setCell (Below.setCell ?_ (by simp) _) (by simp) _) (by simp) _) (by simp) _
  have := HB.out.size
  refine Below.trans (b := w49 w) ((Below.refl w.heap.size w).alloc (Nat.le_refl _) _) ?_
  refine Below.trans (b := w1) (HB.out.mono (by simp)) ?_
  exact ((Below.refl w1.heap.size w1).alloc (Nat.le_refl _) _).mono (by simp at this; omega) |>.trans (HB2.out.mono (by simp at this ⊢; omega))

/-- The result is a struct of some make, and of what was there nothing has changed. -/
theorem parseSemver_any (s : ByteArray) (w : World) (a ae ai au : Addr) (hF : FcbOK 3 s) (hG : Gl w a ae ai au) (hs : s.size ≤ 1048576) (ha : Asc (bs s)) : Calls Tryz.prog 23 #[.string s] w (AggPost w) := by
  have HF := Lib.hid hF; have HA := Lib.hid ha
  have HG1 := Lib.hid (gl_of hG ((Below.refl _ _).alloc (Nat.le_refl _) (.cells #[.bool false, .slice none 0 0, .string (mk []), .string (mk [])] 51)))
  clear hF hG ha
  go_enter Tryz.func23, Tryz.ntmps23
  go_wp2_with (go_at_call 45; go_loud (refine (parseLike_any 3 s _ a ae ai au HF.out HG1.out hs HA.out).mono ?_); rintro e w1 ⟨b, p, m, c, bld, org, rfl, hi, hB⟩; obtain ⟨hc1, hf1⟩ := bcell hB; have HB := Lib.hid hB; have HI := Lib.hid hi; have hsz := hB.size; simp at hsz; clear hi hB)
  refine bodyPost_ret (by simp [results, Tryz.results23, go_sem, *]; try rfl) rfl ?_
  refine ⟨⟨_, rfl⟩, ?_⟩
  refine Below.setCell (Below.setCell (Below.setCell (Below.setCell ?_ (by simp) _) (by simp) _) (by simp) _) (by simp) _
  exact ((Below.refl w.heap.size w).alloc (Nat.le_refl _) _).trans (HB.out.mono (by simp))
theorem parseNuGet_any (s : ByteArray) (w : World) (a ae ai au : Addr) (hF : FcbOK 4 s) (hG : Gl w a ae ai au) (hs : s.size ≤ 1048576) (ha : Asc (bs s)) : Calls Tryz.prog 28 #[.string s] w (AggPost w) := by
  have HF := Lib.hid hF; have HA := Lib.hid ha
  have HG1 := Lib.hid (gl_of hG ((Below.refl _ _).alloc (Nat.le_refl _) (.cells #[.bool false, .slice none 0 0, .string (mk []), .string (mk [])] 60)))
  clear hF hG ha
  go_enter Tryz.func28, Tryz.ntmps28
  go_wp2_with (go_at_call 45; go_loud (refine (parseLike_any 4 s _ a ae ai au HF.out HG1.out hs HA.out).mono ?_); rintro e w1 ⟨b, p, m, c, bld, org, rfl, hi, hB⟩; obtain ⟨hc1, hf1⟩ := bcell hB; have HB := Lib.hid hB; have HI := Lib.hid hi; have hsz := hB.size; simp at hsz; clear hi hB)
  refine bodyPost_ret (by simp [results, Tryz.results28, go_sem, *]; try rfl) rfl ?_
  refine ⟨⟨_, rfl⟩, ?_⟩
  refine Below.setCell (Below.setCell (Below.setCell (Below.setCell ?_ (by simp) _) (by simp) _) (by simp) _) (by simp) _
  exact ((Below.refl w.heap.size w).alloc (Nat.le_refl _) _).trans (HB.out.mono (by simp))
theorem parsePub_any (s : ByteArray) (w : World) (a ae ai au : Addr) (hF : FcbOK 3 s) (hG : Gl w a ae ai au) (hs : s.size ≤ 1048576) (ha : Asc (bs s)) : Calls Tryz.prog 30 #[.string s] w (AggPost w) := by
  have HF := Lib.hid hF; have HA := Lib.hid ha
  have HG1 := Lib.hid (gl_of hG ((Below.refl _ _).alloc (Nat.le_refl _) (.cells #[.bool false, .slice none 0 0, .string (mk []), .string (mk [])] 63)))
  clear hF hG ha
  go_enter Tryz.func30, Tryz.ntmps30
  go_wp2_with (go_at_call 45; go_loud (refine (parseLike_any 3 s _ a ae ai au HF.out HG1.out hs HA.out).mono ?_); rintro e w1 ⟨b, p, m, c, bld, org, rfl, hi, hB⟩; obtain ⟨hc1, hf1⟩ := bcell hB; have HB := Lib.hid hB; have HI := Lib.hid hi; have hsz := hB.size; simp at hsz; clear hi hB)
  refine bodyPost_ret (by simp [results, Tryz.results30, go_sem, *]; try rfl) rfl ?_
  refine ⟨⟨_, rfl⟩, ?_⟩
  refine Below.setCell (Below.setCell (Below.setCell (Below.setCell ?_ (by simp) _) (by simp) _) (by simp) _) (by simp) _
  exact ((Below.refl w.heap.size w).alloc (Nat.le_refl _) _).trans (HB.out.mono (by simp))

theorem new_at {w wr : World} {T : TypeId} (h : Below (w.heap.size + 1) (w.alloc (.cells #[.bool false, .slice none 0 0, .string (mk []), .string (mk [])] T)) wr) : wr.cell? ⟨w.heap.size, 0, none⟩ = some (.bool false) ∧ wr.cell? ⟨w.heap.size, 1, none⟩ = some (.slice none 0 0) ∧ wr.cell? ⟨w.heap.size, 2, none⟩ = some (.string (mk [])) ∧ wr.cell? ⟨w.heap.size, 3, none⟩ = some (.string (mk []))
    ∧ wr.frozen? ⟨w.heap.size, 0, none⟩ = false ∧ wr.frozen? ⟨w.heap.size, 1, none⟩ = false ∧ wr.frozen? ⟨w.heap.size, 2, none⟩ = false ∧ wr.frozen? ⟨w.heap.size, 3, none⟩ = false := by
  have hc : wr.heap[w.heap.size]? = some (.cells #[.bool false, .slice none 0 0, .string (mk []), .string (mk [])] T) := by
    rw [h.block _ (by omega)]
    exact heap_alloc_new w _
  refine ⟨?_, ?_, ?_, ?_, ?_, ?_, ?_, ?_⟩ <;> simp [World.cell?, World.frozen?, hc]
theorem ise_dec (s : ByteArray) : (s.toList.isEmpty = true ∧ bs s = []) ∨ (s.toList.isEmpty = false ∧ bs s ≠ []) := by
  rw [ByteArray.toList_eq]
  cases h : s.data.toList with
  | nil => exact .inl ⟨rfl, h⟩
  | cons c r => exact .inr ⟨rfl, by intro h2; unfold bs at h2; rw [h] at h2; cases h2⟩
/-- The result of ParseHackageVersion. -/
def HackPost (w : World) (ai : Addr) (t : ByteArray) (e : Ending) (w' : World) : Prop :=
  ∃ cs er, e = .returned (.tuple #[.agg cs, er]) ∧ (((∀ c ∈ Lib.trimPrefix (bs t) [118], dotDig c = true) ∧ er = .nilIface) ∨ ((¬ ∀ c ∈ Lib.trimPrefix (bs t) [118], dotDig c = true) ∧ er = .iface 364 (.pointer (some ai)))) ∧ Below w.heap.size w w'
set_option maxHeartbeats 4000000 in
theorem parseHackage_any (s : ByteArray) (w : World) (a ae ai au : Addr) (hG : Gl w a ae ai au) (hs : s.size ≤ 1048576) (ha : Asc (bs s)) : Calls Tryz.prog 26 #[.string s] w (HackPost w ai s) := by
  have HF := Lib.hid (fcb_small (-1) s (.inl rfl)); have HA := Lib.hid ha
  have HG1 := Lib.hid (gl_of hG ((Below.refl _ _).alloc (Nat.le_refl _) (.cells #[.bool false, .slice none 0 0, .string (mk []), .string (mk [])] 56)))
  have hw20 := hG.size
  clear hG ha
  go_enter Tryz.func26, Tryz.ntmps26
  go_wp2_with (go_at_call 45; go_loud (refine (parseLike_any (-1) s _ a ae ai au HF.out HG1.out hs HA.out).mono ?_); rintro e w1 ⟨b, p, m, c, bld, org, rfl, hi, hB⟩; obtain ⟨hc1, hf1⟩ := bcell hB; have hgi := (gl_below (gl_below HG1.out hB) ((Below.refl _ _).alloc (Nat.le_refl _) (.cells #[.bool b, .slice p m c, .string bld, .string org] 56))).inv; obtain ⟨q0, q1, q2, q3, r0, r1, r2, r3⟩ := new_at (T := 56) (wr := w1.alloc (.cells #[.bool b, .slice p m c, .string bld, .string org] 56)) (by have h1 := hB.size; simp at h1; simpa using hB.alloc (by simpa using h1) _); have HB := Lib.hid hB; have HI := Lib.hid (hi rfl); have hsz := hB.size; simp at hsz; clear hi hB; rcases ise_dec bld with ⟨hbe, hbs⟩ | ⟨hbe, hbs⟩ <;> have HBS := Lib.hid hbs <;> clear hbs)
  · refine bodyPost_ret (by simp [results, Tryz.results26, go_sem, *]; try rfl) rfl ?_
    refine ⟨_, _, rfl, .inl ⟨HI.out.1 HBS.out, rfl⟩, ?_⟩
    refine Below.setCell (Below.setCell (Below.setCell (Below.setCell (Below.alloc ?_ (by omega) _) (by simp) _) (by simp) _) (by simp) _) (by simp) _
    exact ((Below.refl w.heap.size w).alloc (Nat.le_refl _) _).trans (HB.out.mono (by simp))
  · have hne : w.heap.size ≠ 1 := by omega
    go_region
    all_goals go_wp2_with fail
    refine bodyPost_ret (by simp [results, Tryz.results26, go_sem, *]; try rfl) rfl ?_
    refine ⟨_, _, rfl, .inr ⟨fun h => HBS.out (HI.out.2 h), rfl⟩, ?_⟩
    refine Below.drew ?_
    refine Below.setCell (Below.setCell (Below.setCell (Below.setCell (Below.alloc ?_ (by omega) _) (by simp) _) (by simp) _) (by simp) _) (by simp) _
    exact ((Below.refl w.heap.size w).alloc (Nat.le_refl _) _).trans (HB.out.mono (by simp))

end Go.Proofs.YtoofphhfealcaaaGreatDoor
