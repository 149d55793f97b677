/-
  WALKS: RubyGems' versions, at texts of ASCII.
-/
import Derived.Test.YtoofphhfealcaaaGreatDoorG1
import Derived.Laws.AppendOwnNone
namespace Go.Proofs.YtoofphhfealcaaaGreatDoor
open Go.RowKit

theorem rune_asc (c : UInt8) (h : c.toNat < 128) : Lib.runeCells (c.toNat : Int) = Lib.byteCells [c] := by
  rw [Lib.runeCells, Lib.encodeRuneZ_one (by omega) (by omega)]
  rfl
/-- What the loop over the text has in hand: the place, the builder's bytes. -/
structure Rk (w0 wr : World) (t : ByteArray) (pos : Nat) (m : List UInt8) : Prop where
  it : wr.heap[w0.heap.size + 1]? = some (.stringIter t pos)
  ple : pos ≤ t.size
  len : m.length ≤ 2 * pos
  bld : Lib.IsBuilderF 166 5 w0.heap.size w0.heap.size (Lib.byteCells m) wr
  below : Below w0.heap.size w0 wr
theorem bld_str (B b : Nat) (m : List UInt8) (l : List UInt8) (w : World) (h : Lib.IsBuilderF 166 5 B b (Lib.byteCells m) w) (hlen : m.length + l.length ≤ 1073741824) (hBw : B ≤ w.heap.size) :
    Calls Tryz.prog 90 #[.pointer (some ⟨b, 0, none⟩), .string (mk l)] w fun e w' => (∃ x, e = .returned x) ∧ (Lib.IsBuilderF 166 5 B b (Lib.byteCells (m ++ l)) w' ∧ Below B w w' ∧ ∀ s pos, w.heap[b + 1]? = some (.stringIter s pos) → w'.heap[b + 1]? = some (.stringIter s pos)) := by
  refine (Tryz.bld_WriteString B b (Lib.byteCells m) (mk l) w h (by rw [mk_size]; simp [Lib.byteCells]; omega) hBw).mono ?_
  rintro e w' ⟨rfl, h1, h2, h3⟩
  refine ⟨⟨_, rfl⟩, .inr ?_, h2, fun s pos hi => h3.iter hi (by omega)⟩
  rw [Lib.byteCells_append]
  exact h1
theorem bld_rune (B b : Nat) (m : List UInt8) (c : UInt8) (w : World) (hc : c.toNat < 128) (h : Lib.IsBuilderF 166 5 B b (Lib.byteCells m) w) (hlen : m.length ≤ 1073741824) (hBw : B ≤ w.heap.size) :
    Calls Tryz.prog 105 #[.pointer (some ⟨b, 0, none⟩), .int .i32 c.toNat] w fun e w' => (∃ x, e = .returned x) ∧ (Lib.IsBuilderF 166 5 B b (Lib.byteCells (m ++ [c])) w' ∧ Below B w w' ∧ ∀ s pos, w.heap[b + 1]? = some (.stringIter s pos) → w'.heap[b + 1]? = some (.stringIter s pos)) := by
  refine (Tryz.bld_WriteRune B b (Lib.byteCells m) c.toNat (by omega) (by omega) w h (by simp [Lib.byteCells]; omega) hBw).mono ?_
  rintro e w' ⟨rfl, h1, h2, h3⟩
  refine ⟨⟨_, rfl⟩, .inr ?_, h2, fun s pos hi => h3.iter hi (by omega)⟩
  rw [Lib.byteCells_append]
  rw [rune_asc c hc] at h1
  exact h1
theorem rk_next {w0 wr : World} {t : ByteArray} {pos : Nat} {m : List UInt8} (H : Rk w0 wr t pos m) (hp : pos < t.size) : Rk w0 (wr.iterAt (w0.heap.size + 1) t (pos + 1)) t (pos + 1) m :=
  ⟨Lib.iterAt_heap _ _ _ _ _ H.it, hp, by have := H.len; omega, H.bld.iterAt H.it _, iterAt_below H.below (by omega) _ _⟩
theorem rk_add {w0 wr w1 : World} {t : ByteArray} {pos : Nat} {m m1 : List UInt8} (H : Rk w0 wr t pos m) (hb : Lib.IsBuilderF 166 5 w0.heap.size w0.heap.size (Lib.byteCells m1) w1) (hB : Below w0.heap.size wr w1) (hi : ∀ s pos, wr.heap[w0.heap.size + 1]? = some (.stringIter s pos) → w1.heap[w0.heap.size + 1]? = some (.stringIter s pos)) (hl : m1.length ≤ 2 * pos) : Rk w0 w1 t pos m1 :=
  ⟨hi _ _ H.it, H.ple, hl, hb, H.below.trans hB⟩

/-- A text of n bytes at the most, and nothing that was there has changed. -/
def TxtPost (w : World) (n : Nat) (e : Ending) (w' : World) : Prop := ∃ t, e = .returned (.string t) ∧ t.size ≤ n ∧ Below w.heap.size w w'

set_option maxRecDepth 100000 in
set_option maxHeartbeats 4000000 in
theorem canonRuby_any (s : ByteArray) (w : World) (hs : s.size ≤ 1048576) (ha : Asc (bs s)) : Calls Tryz.prog 61 #[.string s] w (TxtPost w (2 * s.size)) := by
  have HA := Lib.hid ha
  clear ha
  have HF : Hid (Lib.IsBuilderF 166 5 w.heap.size w.heap.size (Lib.byteCells []) (w.alloc (.cells #[.pointer none, .slice none 0 0] 166))) := Lib.IsBuilderF.of (Lib.fresh_isBuilder 166 5 w)
  go_enter Tryz.func61, Tryz.ntmps61
  go_wp2_with fail
  go_loopw [4, 5] (fun c p wr => ∃ (b1 b2 : Bool) (pos : Nat) (m : List UInt8), c = .bool b1 ∧ p = .bool b2 ∧ pos ≤ s.size ∧ m.length ≤ 2 * pos ∧ Hid (Rk w wr s pos m)) (fun _ _ wr => s.size - wr.iterPos (w.heap.size + 1))
  case atStart => exact ⟨false, true, 0, [], rfl, rfl, by omega, by simp, ⟨by have h := World.iter_heap (w.alloc (.cells #[.pointer none, .slice none 0 0] 166)) s 0; simpa [mk] using h, by omega, by simp, HF.out.alloc _, ((Below.refl _ _).alloc (Nat.le_refl _) _).alloc (by simp) _⟩⟩
  case round =>
    obtain ⟨b1, b2, pos, m, rfl, rfl, hpos, hm, HL⟩ := hrel
    have hww := HL.out.below.size
    have hip : wr.iterPos (w.heap.size + 1) = pos := by rw [World.iterPos, HL.out.it]
    by_cases hp : pos < s.size
    · have hca := HA.out (s[pos]'hp) (by rw [bs_get s pos hp]; exact List.getElem_mem _)
      have hnx0 := fun ty => Lib.run_next_ascii_at (P := Tryz.prog) wr (w.heap.size + 1) s pos ty HL.out.it hp hca
      have HLB := Lib.hid (rk_next HL.out hp)
      generalize (s[pos]'hp) = c at hnx0 hca
      have hnx : ∀ ty, (Instr.next (.pointer (some ⟨w.heap.size + 1, 0, none⟩)) true ty).run Tryz.prog wr = .ok (.tuple #[.bool true, .int .i64 pos, .int .i32 c.toNat]) (wr.iterAt (w.heap.size + 1) s (pos + 1)) := hnx0
      have HCA := Lib.hid hca
      have hsz : w.heap.size ≤ (wr.iterAt (w.heap.size + 1) s (pos + 1)).heap.size := HLB.out.below.size
      clear hca hnx0
      have hip2 : (wr.iterAt (w.heap.size + 1) s (pos + 1)).iterPos (w.heap.size + 1) = pos + 1 := by rw [World.iterPos, HLB.out.it]
      have HI2 := Lib.hid hip2
      have HI1 := Lib.hid hip
      clear hip2 hip
      generalize (wr.iterAt (w.heap.size + 1) s (pos + 1)) = W at hnx HLB hsz HI2
      by_cases h46 : c.toNat = 46
      · have q1 : ((c.toNat : Int) == 46) = true := by rw [beq_iff_eq]; omega
        clear h46
        go_wp2_with (go_at_call 90; refine (bld_str w.heap.size w.heap.size m [46] _ HLB.out.bld (by simp; omega) hsz).mono ?_; rintro e w1 ⟨⟨x, rfl⟩, hb1, hB1, hi1⟩; have HR := Lib.hid (rk_add HLB.out hb1 hB1 hi1 (by simp; omega)); clear hb1 hB1 hi1)
        go_roundw
        case rel => exact ⟨false, b2, pos + 1, _, rfl, rfl, by omega, by simp; omega, HR⟩
        case measure => rw [HI1.out, show w1.iterPos (w.heap.size + 1) = pos + 1 by rw [World.iterPos, HR.out.it]]; omega
      · have q1 : ((c.toNat : Int) == 46) = false := by rw [beq_eq_false_iff_ne]; omega
        clear h46
        cases b1
        · go_wp2_with (first
            | (go_at_call 67; refine (isASCIIDigit_any _ _).mono ?_; rintro e w' ⟨rfl, rfl⟩)
            | (go_at_call 105; refine (bld_rune w.heap.size w.heap.size m c _ HCA.out HLB.out.bld (by omega) hsz).mono ?_; rintro e w1 ⟨⟨x, rfl⟩, hb1, hB1, hi1⟩; have HR := Lib.hid (rk_add HLB.out hb1 hB1 hi1 (by simp; omega)); clear hb1 hB1 hi1))
          go_roundw
          case rel => exact ⟨true, _, pos + 1, _, rfl, rfl, by omega, by simp; omega, HR⟩
          case measure => rw [HI1.out, show w1.iterPos (w.heap.size + 1) = pos + 1 by rw [World.iterPos, HR.out.it]]; omega
        · cases hd : digR (c.toNat : Int) <;> have HD := Lib.hid hd <;> clear hd <;> cases b2
          · go_wp2_with (first
              | (go_at_call 67; refine (isASCIIDigit_any _ _).mono ?_; rintro e w' ⟨rfl, rfl⟩; rw [HD.out])
              | (go_at_call 105; refine (bld_rune w.heap.size w.heap.size m c _ HCA.out HLB.out.bld (by omega) hsz).mono ?_; rintro e w1 ⟨⟨x, rfl⟩, hb1, hB1, hi1⟩; have HR := Lib.hid (rk_add HLB.out hb1 hB1 hi1 (by simp; omega)); clear hb1 hB1 hi1))
            go_roundw
            case rel => exact ⟨true, _, pos + 1, _, rfl, rfl, by omega, by simp; omega, HR⟩
            case measure => rw [HI1.out, show w1.iterPos (w.heap.size + 1) = pos + 1 by rw [World.iterPos, HR.out.it]]; omega
          · go_wp2_with (first
              | (go_at_call 67; refine (isASCIIDigit_any _ _).mono ?_; rintro e w' ⟨rfl, rfl⟩; rw [HD.out])
              | (go_at_call 90; refine (bld_str w.heap.size w.heap.size m [46] _ HLB.out.bld (by simp; omega) hsz).mono ?_; rintro e w1 ⟨⟨x, rfl⟩, hb1, hB1, hi1⟩; have HR1 := Lib.hid (rk_add HLB.out hb1 hB1 hi1 (by simp; omega)); have hsz1 := Nat.le_trans hsz hB1.size; clear hb1 hB1 hi1)
              | (go_at_call 105; refine (bld_rune w.heap.size w.heap.size (m ++ [46]) c _ HCA.out HR1.out.bld (by simp; omega) hsz1).mono ?_; rintro e w2 ⟨⟨x2, rfl⟩, hb1, hB1, hi1⟩; have HR := Lib.hid (rk_add HR1.out hb1 hB1 hi1 (by simp; omega)); clear hb1 hB1 hi1))
            go_roundw
            case rel => exact ⟨true, _, pos + 1, _, rfl, rfl, by omega, by simp; omega, HR⟩
            case measure => rw [HI1.out, show w2.iterPos (w.heap.size + 1) = pos + 1 by rw [World.iterPos, HR.out.it]]; omega
          · go_wp2_with (first
              | (go_at_call 67; refine (isASCIIDigit_any _ _).mono ?_; rintro e w' ⟨rfl, rfl⟩; rw [HD.out])
              | (go_at_call 90; refine (bld_str w.heap.size w.heap.size m [46] _ HLB.out.bld (by simp; omega) hsz).mono ?_; rintro e w1 ⟨⟨x, rfl⟩, hb1, hB1, hi1⟩; have HR1 := Lib.hid (rk_add HLB.out hb1 hB1 hi1 (by simp; omega)); have hsz1 := Nat.le_trans hsz hB1.size; clear hb1 hB1 hi1)
              | (go_at_call 105; refine (bld_rune w.heap.size w.heap.size (m ++ [46]) c _ HCA.out HR1.out.bld (by simp; omega) hsz1).mono ?_; rintro e w2 ⟨⟨x2, rfl⟩, hb1, hB1, hi1⟩; have HR := Lib.hid (rk_add HR1.out hb1 hB1 hi1 (by simp; omega)); clear hb1 hB1 hi1))
            go_roundw
            case rel => exact ⟨true, _, pos + 1, _, rfl, rfl, by omega, by simp; omega, HR⟩
            case measure => rw [HI1.out, show w2.iterPos (w.heap.size + 1) = pos + 1 by rw [World.iterPos, HR.out.it]]; omega
          · go_wp2_with (first
              | (go_at_call 67; refine (isASCIIDigit_any _ _).mono ?_; rintro e w' ⟨rfl, rfl⟩; rw [HD.out])
              | (go_at_call 105; refine (bld_rune w.heap.size w.heap.size m c _ HCA.out HLB.out.bld (by omega) hsz).mono ?_; rintro e w1 ⟨⟨x, rfl⟩, hb1, hB1, hi1⟩; have HR := Lib.hid (rk_add HLB.out hb1 hB1 hi1 (by simp; omega)); clear hb1 hB1 hi1))
            go_roundw
            case rel => exact ⟨true, _, pos + 1, _, rfl, rfl, by omega, by simp; omega, HR⟩
            case measure => rw [HI1.out, show w1.iterPos (w.heap.size + 1) = pos + 1 by rw [World.iterPos, HR.out.it]]; omega
    · have hnx : ∀ ty, (Instr.next (.pointer (some ⟨w.heap.size + 1, 0, none⟩)) true ty).run Tryz.prog wr = _ := fun ty => Lib.run_next_end_at wr (w.heap.size + 1) s pos ty HL.out.it hp
      go_wp2_with (go_at_call 92; refine (Tryz.bld_String w.heap.size w.heap.size m _ HL.out.bld hww).mono ?_; rintro e w1 ⟨rfl, hb1, hB1, hi1⟩; have HW1 := Lib.hid (HL.out.below.trans hB1); clear hb1 hB1 hi1)
      go_ret
      exact ⟨_, rfl, by rw [show (⟨m.toArray⟩ : ByteArray) = mk m from rfl, mk_size]; omega, HW1.out⟩

/-- The head of a slice that the call owns. -/
theorem strs_take {w : World} {base : Nat} {A : Option Addr} {n c : Nat} {l : List ByteArray} (h : Strs w base (.slice A n c) l) (m : Nat) (hm : m ≤ n) : Strs w base (.slice A m c) (l.take m) := by
  rcases h with ⟨h0, h⟩
  rcases h with ⟨h1, h2⟩ | ⟨g, cap, cur, h1, h2, h3, h4, h5, h6, h7⟩
  · cases h1
    have hm0 : m = 0 := by omega
    subst hm0
    exact strs_nil _ _
  · cases h1
    have hl : (l.take m).length = m := by rw [List.length_take]; omega
    refine ⟨by simp, .inr ⟨g, c, cur, by rw [hl], h2, h3, by rw [hl]; omega, h5, h6, ?_⟩⟩
    rw [hl, List.map_take, ← h7, List.take_take]
    congr 1
    omega
theorem strs_eq {w : World} {base : Nat} {A : Option Addr} {n c : Nat} {l : List ByteArray} (h : Strs w base (.slice A n c) l) : n = l.length := by
  obtain ⟨A2, c2, e⟩ := strs_len h
  cases e
  rfl

/-- Two slices that share no row. -/
def Apart (v1 v2 : Value) : Prop := ∀ g, v1.ownBlock = some g → v2.ownBlock ≠ some g
theorem apart_symm {v1 v2 : Value} (h : Apart v1 v2) : Apart v2 v1 := fun g h1 h2 => h g h2 h1
theorem strs_other {w w1 : World} {base : Nat} {v u : Value} {l : List ByteArray} (h : Strs w base u l) (hg : w.grownBy w1 v.ownBlock) (ha : Apart v u) : Strs w1 base u l := by
  refine World.ownsRow.kept h hg ?_
  rcases hb : u.ownBlock with _ | b
  · exact .inl rfl
  · exact .inr (fun e => ha b e.symm hb)
theorem strs_alloc {w : World} {base : Nat} {v : Value} {l : List ByteArray} (h : Strs w base v l) (o : Obj) : Strs (w.alloc o) base v l := World.ownsRow.alloc h o
theorem apart_step {w : World} {base : Nat} {v u v1 : Value} {l : List ByteArray} (h : Apart v u) (hu : Strs w base u l) (hv : v1.ownBlock = v.ownBlock ∨ v1.ownBlock = some (w.heap.size + 1)) : Apart v1 u := by
  intro g h1 h2
  rcases hv with e | e
  · exact h g (by rw [← e]; exact h1) h2
  · rw [e] at h1
    injection h1 with h1
    have := (World.ownsRow.lt hu g h2).2
    omega
section
variable {ops : Array Oper} {rest : List Oper} {o : Oper} {a : Act} {Q : Exit → Act → World → Prop}
/-- append of one string to a []string of the call's own, another one beside it. -/
theorem app_str2 {w0 W : World} (base : Nat) (hgd : o.guard = none) (s x : Operand)
    (ho : o.op = .call { callee := .builtin .append, args := #[s, x], argTypes := #[26, 26] })
    (v : Value) (l : List ByteArray) (y : ByteArray) (u : Value) (m : List ByteArray) (HO : Strs W base v l) (HU : Strs W base u m) (HA : Apart v u) (hs : a.eval s = v) (hx : a.eval x = .slice (some ⟨W.heap.size, 0, none⟩) 1 1)
    (HB : Below base w0 W) (hbase : base ≤ W.heap.size) (hl : l.length ≤ 8796093022207)
    (h : ∀ v1 w1, Strs w1 base v1 (l ++ [y]) → Strs w1 base u m → Apart v1 u → Below base w0 w1 → wpList Tryz.prog ops Q rest (a.put o.dst v1) w1) :
    wpList Tryz.prog ops Q (o :: rest) a (W.alloc (.cells #[.string y] 9)) := by
  obtain ⟨i0, hi, hzz⟩ := Option.map_eq_some_iff.1 info9
  simp only [Prod.mk.injEq] at hzz
  obtain ⟨hz0, hz1, hz2⟩ := hzz
  refine wpList_append_own_at (W.alloc (.cells #[.string y] 9)) hgd s x 26 ho base 9 i0 (.string (mk [])) 1 16 und26 hi hz0 hz1 hz2 rfl (by omega) v l.length _ hs (World.ownsRow.alloc HO _) ⟨W.heap.size, 0, none⟩ 1 1 [.string y] hx rfl
    (cell_one_new _ _ _) (by simp [Value.oneCell']) (by simp only [maxLen]; omega) (by omega) (by simp; omega) ?_
  intro v1 w1 hown hg _ hv
  have hB := (HB.alloc hbase (.cells #[.string y] 9)).grown hg (by simp; omega) (own_base HO)
  rw [World.size_alloc] at hv
  refine h v1 w1 (by simpa [Strs] using hown) (strs_other (strs_alloc HU _) hg HA) (apart_step HA HU hv) hB
end
def GrpPost (w : World) (n : Nat) (e : Ending) (w' : World) : Prop := ∃ A1 n1 c1 A2 n2 c2 l1 l2, e = .returned (.tuple #[.slice A1 n1 c1, .slice A2 n2 c2]) ∧ Strs w' w.heap.size (.slice A1 n1 c1) l1 ∧ Strs w' w.heap.size (.slice A2 n2 c2) l2 ∧ Apart (.slice A1 n1 c1) (.slice A2 n2 c2) ∧ n1 + n2 ≤ n ∧ Below w.heap.size w w'
/-- What the loop over the segments has in hand. -/
structure Gk (w0 wr : World) (v1 v2 : Value) (l1 l2 : List ByteArray) : Prop where
  s1 : Strs wr w0.heap.size v1 l1
  s2 : Strs wr w0.heap.size v2 l2
  ap : Apart v1 v2
  below : Below w0.heap.size w0 wr
theorem gk_below {w0 wr w1 : World} {v1 v2 : Value} {l1 l2 : List ByteArray} (h : Gk w0 wr v1 v2 l1 l2) (hb : Below wr.heap.size wr w1) : Gk w0 w1 v1 v2 l1 l2 :=
  ⟨strs_below h.s1 hb, strs_below h.s2 hb, h.ap, h.below.trans (hb.mono h.below.size)⟩
set_option maxRecDepth 100000 in
set_option maxHeartbeats 4000000 in
theorem groupSeg_any (b0 : Nat) (l : List ByteArray) (A : Option Addr) (n c : Nat) (w : World) (a ae ai au : Addr) (hG : Gl w a ae ai au) (hS : Strs w b0 (.slice A n c) l) (hl : n ≤ 4194304) (hz : ∀ x ∈ l, x.size ≤ 1048576) :
    Calls Tryz.prog 103 #[.slice A n c] w (GrpPost w n) := by
  have HG := Lib.hid hG
  have HS := Lib.hid hS
  have HZ := Lib.hid hz
  have hln := strs_eq hS
  have HLN := Lib.hid hln
  have hw20 := hG.size
  clear hG hS hz hln
  go_enter Tryz.func103, Tryz.ntmps103
  go_wp2_with fail
  go_loopw [2, 3, 10] (fun v1 v2 i wr => ∃ (k : Nat) (l1 l2 : List ByteArray), i = .int .i64 k ∧ k ≤ n ∧ l1.length + l2.length ≤ k ∧ Hid (Gk w wr v1 v2 l1 l2)) (fun _ _ i _ => n - (intOf i).toNat)
  case atStart => exact ⟨0, [], [], rfl, Nat.zero_le _, Nat.le_refl _, ⟨strs_nil _ _, strs_nil _ _, (fun g h => by cases h), Below.refl _ _⟩⟩
  case round =>
    obtain ⟨k, l1, l2, rfl, hk, hkl, HK⟩ := hrel
    have hwz := HK.out.below.size
    by_cases hlt : k < n
    · obtain ⟨g, cp2, hA, hg1, hg2, hcs⟩ := strs_cells HS.out (by have := HLN.out; omega)
      injection hA with hA1 hA2 hA3
      subst hA1
      have hkl2 : k < l.length := by have := HLN.out; omega
      have hck : wr.cell? ⟨g, k, none⟩ = some (.string (l[k]'hkl2)) := by
        rw [← hcs k hkl2]
        exact HK.out.below.cell (p := ⟨g, k, none⟩) hg2
      have hxz : (l[k]'hkl2).size ≤ 1048576 := HZ.out _ (List.getElem_mem _)
      generalize (l[k]'hkl2) = x at hck hxz
      have HGW := Lib.hid (gl_below HG.out HK.out.below)
      clear hcs hA2 hA3
      obtain ⟨A1, c1, rfl⟩ := strs_len HK.out.s1
      obtain ⟨A2, c2, rfl⟩ := strs_len HK.out.s2
      cases hnu : isNum (bs x) <;> have HNU := Lib.hid hnu <;> clear hnu
      · by_cases h2 : 0 < l2.length
        · have hd2 : decide ((0 : Int) < (l2.length : Int)) = true := decide_eq_true (by omega)
          go_wp2_with (first
            | (go_at_call 52; refine (conv_no x _ a ae ai au HGW.out hxz HNU.out).mono ?_; rintro e w3 ⟨rfl, hB3⟩; have hsz3 := hB3.size; have HK3 := Lib.hid (gk_below HK.out hB3); clear hB3)
            | (at_builtin; (refine app_str2 (w0 := w) (W := w3) w.heap.size rfl _ _ rfl _ l2 x _ l1 HK3.out.s2 HK3.out.s1 (apart_symm HK3.out.ap) rfl rfl HK3.out.below (by omega) (by omega) ?_); intro v3 w4 hs2 hs1 hap hbb; have HK4 : Hid (Gk w w4 _ v3 l1 (l2 ++ [x])) := ⟨hs1, hs2, apart_symm hap, hbb⟩; clear hs2 hs1 hap hbb))
          go_roundw
          case rel => exact ⟨k + 1, _, _, by go_num, by omega, by simp; omega, HK4⟩
          case measure => simp [intOf]; omega
        · obtain rfl : l2 = [] := List.eq_nil_of_length_eq_zero (by omega)
          clear h2
          go_wp2_with (first
            | (go_at_call 52; refine (conv_no x _ a ae ai au HGW.out hxz HNU.out).mono ?_; rintro e w3 ⟨rfl, hB3⟩; have hsz3 := hB3.size; have HK3 := Lib.hid (gk_below HK.out hB3); clear hB3)
            | (at_builtin; (refine app_str2 (w0 := w) (W := w3) w.heap.size rfl _ _ rfl _ [] x _ l1 HK3.out.s2 HK3.out.s1 (apart_symm HK3.out.ap) rfl rfl HK3.out.below (by omega) (by omega) ?_); intro v3 w4 hs2 hs1 hap hbb; have HK4 : Hid (Gk w w4 _ v3 l1 ([] ++ [x])) := ⟨hs1, hs2, apart_symm hap, hbb⟩; clear hs2 hs1 hap hbb))
          go_roundw
          case rel => exact ⟨k + 1, _, _, by go_num, by omega, by simp; omega, HK4⟩
          case measure => simp [intOf]; omega
      · by_cases h2 : 0 < l2.length
        · have hd2 : decide ((0 : Int) < (l2.length : Int)) = true := decide_eq_true (by omega)
          go_wp2_with (first
            | (go_at_call 52; refine (conv_yes x _ a ae ai au HGW.out hxz HNU.out).mono ?_; rintro e w3 ⟨rfl, _, hB3⟩; have hsz3 := hB3.size; have HK3 := Lib.hid (gk_below HK.out hB3); clear hB3)
            | (at_builtin; (refine app_str2 (w0 := w) (W := w3) w.heap.size rfl _ _ rfl _ l2 x _ l1 HK3.out.s2 HK3.out.s1 (apart_symm HK3.out.ap) rfl rfl HK3.out.below (by omega) (by omega) ?_); intro v3 w4 hs2 hs1 hap hbb; have HK4 : Hid (Gk w w4 _ v3 l1 (l2 ++ [x])) := ⟨hs1, hs2, apart_symm hap, hbb⟩; clear hs2 hs1 hap hbb))
          go_roundw
          case rel => exact ⟨k + 1, _, _, by go_num, by omega, by simp; omega, HK4⟩
          case measure => simp [intOf]; omega
        · obtain rfl : l2 = [] := List.eq_nil_of_length_eq_zero (by omega)
          clear h2
          go_wp2_with (first
            | (go_at_call 52; refine (conv_yes x _ a ae ai au HGW.out hxz HNU.out).mono ?_; rintro e w3 ⟨rfl, _, hB3⟩; have hsz3 := hB3.size; have HK3 := Lib.hid (gk_below HK.out hB3); clear hB3)
            | (at_builtin; (refine app_str2 (w0 := w) (W := w3) w.heap.size rfl _ _ rfl _ l1 x _ [] HK3.out.s1 HK3.out.s2 HK3.out.ap rfl rfl HK3.out.below (by omega) (by omega) ?_); intro v3 w4 hs1 hs2 hap hbb; have HK4 : Hid (Gk w w4 v3 _ (l1 ++ [x]) []) := ⟨hs1, hs2, hap, hbb⟩; clear hs2 hs1 hap hbb))
          go_roundw
          case rel => exact ⟨k + 1, _, _, by go_num, by omega, by simp; omega, HK4⟩
          case measure => simp [intOf]; omega
    · obtain ⟨A1, c1, rfl⟩ := strs_len HK.out.s1
      obtain ⟨A2, c2, rfl⟩ := strs_len HK.out.s2
      go_wp2_with fail
      go_ret2
      exact ⟨_, _, _, _, _, _, l1, l2, rfl, HK.out.s1, HK.out.s2, HK.out.ap, by omega, HK.out.below⟩

set_option maxRecDepth 100000 in
set_option maxHeartbeats 2000000 in
theorem removeZeros_any (b0 : Nat) (l : List ByteArray) (A : Option Addr) (n c : Nat) (w : World) (hS : Strs w b0 (.slice A n c) l) (hl : n ≤ 4194304) (hc : n ≤ c) :
    Calls Tryz.prog 104 #[.slice A n c] w fun e w' => ∃ m, e = .returned (.slice A m c) ∧ m ≤ n ∧ w = w' := by
  have HS := Lib.hid hS
  have HLN := Lib.hid (strs_eq hS)
  clear hS
  go_enter Tryz.func104, Tryz.ntmps104
  go_wp2_with fail
  go_loop [3] (fun i => ∃ k : Nat, k ≤ n ∧ i = .int .i64 ((k : Int) - 1)) (fun i => (intOf i + 1).toNat)
  case atStart => exact ⟨n, Nat.le_refl _, rfl⟩
  case round =>
    obtain ⟨k, hk, rfl⟩ := hrel
    by_cases h0 : 0 < k
    · obtain ⟨g, cp2, hA, hg1, hg2, hcs⟩ := strs_cells HS.out (by have := HLN.out; omega)
      injection hA with hA1 hA2 hA3
      subst hA1
      have hkl2 : k - 1 < l.length := by have := HLN.out; omega
      have hck := hcs (k - 1) hkl2
      generalize (l[k - 1]'hkl2) = x at hck
      clear hcs hA2 hA3
      have hp1 : (1 : Int) ≤ (k : Int) := by omega
      have hp2 : (0 : Int) ≤ (k : Int) - 1 := by omega
      by_cases hx : (x.toList == [48]) = true
      · go_wp2_with fail
        go_round
        case rel => exact ⟨k - 1, by omega, by go_num⟩
        case measure => simp [intOf]; omega
      · have hx' : (x.toList == [48]) = false := by simpa using hx
        clear hx
        go_wp2_with fail
        go_ret
        exact ⟨k, rfl, hk, rfl⟩
    · obtain rfl : k = 0 := by omega
      go_wp2_with fail
      go_ret
      exact ⟨0, rfl, Nat.zero_le _, rfl⟩

theorem strs_cap {w : World} {base : Nat} {A : Option Addr} {n c : Nat} {l : List ByteArray} (h : Strs w base (.slice A n c) l) : n ≤ c := by
  rcases h.2 with ⟨h1, h2⟩ | ⟨g, cap, cur, h1, h2, h3, h4, h5, h6, h7⟩
  · cases h1; exact Nat.le_refl _
  · cases h1
    have := strs_eq h
    omega
section
variable {ops : Array Oper} {rest : List Oper} {o : Oper} {a : Act} {Q : Exit → Act → World → Prop}
/-- append(s, t...) of one []string of the call's own to another one. -/
theorem app_strs {w0 W : World} (base : Nat) (hgd : o.guard = none) (s x : Operand)
    (ho : o.op = .call { callee := .builtin .append, args := #[s, x], argTypes := #[26, 26] })
    (v : Value) (l : List ByteArray) (u : Value) (m : List ByteArray) (HO : Strs W base v l) (HU : Strs W base u m) (hs : a.eval s = v) (hx : a.eval x = u)
    (HB : Below base w0 W) (hbase : base ≤ W.heap.size) (hl : l.length + m.length ≤ 8796093022207)
    (h : ∀ v1 w1, Strs w1 base v1 (l ++ m) → Below base w0 w1 → wpList Tryz.prog ops Q rest (a.put o.dst v1) w1) :
    wpList Tryz.prog ops Q (o :: rest) a W := by
  obtain ⟨i0, hi, hzz⟩ := Option.map_eq_some_iff.1 info9
  simp only [Prod.mk.injEq] at hzz
  obtain ⟨hz0, hz1, hz2⟩ := hzz
  rcases HU.2 with ⟨rfl, h2⟩ | ⟨g, cap, cur, rfl, h2, h3, h4, h5, h6, h7⟩
  · have hm : m = [] := List.eq_nil_of_length_eq_zero h2
    subst hm
    refine wpList_append_own_none hgd s x 26 ho base 9 i0 1 und26 hi v l.length _ hs HO hx ?_
    exact h v W (by simpa using HO) HB
  · refine wpList_append_own_at W hgd s x 26 ho base 9 i0 (.string (mk [])) 1 16 und26 hi hz0 hz1 hz2 rfl (by omega) v l.length _ hs HO ⟨g, 0, none⟩ m.length cap (m.map Value.string) hx (by simp)
      (fun j u hj => ?_) (by simp [Value.oneCell']) (by simp only [maxLen]; omega) (by omega) hbase ?_
    · have ha : (⟨g, 0, none⟩ : Addr).add j = ⟨g, j, none⟩ := by
        unfold Addr.add
        split <;> simp_all
      have hj2 : j < m.length := by
        have := (List.getElem?_eq_some_iff.1 hj).1
        simpa using this
      rw [ha]
      have := World.ownsRow.cellAt HU j (by simpa using hj2)
      rw [this, hj]
    · intro v1 w1 hown hg _ _
      exact h v1 w1 (by simpa [Strs] using hown) (HB.grown hg hbase (own_base HO))
end
def SlcPost (w : World) (e : Ending) (w' : World) : Prop := ∃ A n c, e = .returned (.slice A n c) ∧ Below w.heap.size w w'
set_option maxHeartbeats 2000000 in
theorem canonSegs_any (b0 : Nat) (l : List ByteArray) (A : Option Addr) (n c : Nat) (w : World) (a ae ai au : Addr) (hG : Gl w a ae ai au) (hS : Strs w b0 (.slice A n c) l) (hl : n ≤ 4194304) (hz : ∀ x ∈ l, x.size ≤ 1048576) :
    Calls Tryz.prog 60 #[.slice A n c] w (SlcPost w) := by
  have HG := Lib.hid hG
  have HS := Lib.hid hS
  have HZ := Lib.hid hz
  clear hG hS hz
  go_enter Tryz.func60, Tryz.ntmps60
  go_wp2_with fail
  refine (groupSeg_any b0 l A n c _ a ae ai au HG.out HS.out hl HZ.out).mono ?_
  rintro e w1 ⟨A1, n1, c1, A2, n2, c2, l1, l2, rfl, h1, h2, hap, hn, hB⟩
  have H1 := Lib.hid h1
  have H2 := Lib.hid h2
  have HB := Lib.hid hB
  have hwz := hB.size
  have hc1 := strs_cap h1
  have hc2 := strs_cap h2
  clear h1 h2 hap hB
  go_wp2_with fail
  refine (removeZeros_any w.heap.size l1 A1 n1 c1 _ H1.out (by omega) hc1).mono ?_
  rintro e w2 ⟨m1, rfl, hm1, rfl⟩
  go_wp2_with fail
  refine (removeZeros_any w.heap.size l2 A2 n2 c2 _ H2.out (by omega) hc2).mono ?_
  rintro e w3 ⟨m2, rfl, hm2, rfl⟩
  have K1 := Lib.hid (strs_take H1.out m1 hm1)
  have K2 := Lib.hid (strs_take H2.out m2 hm2)
  have L1 := Lib.hid (strs_eq K1.out)
  have L2 := Lib.hid (strs_eq K2.out)
  go_wp2_with (at_builtin; (refine app_strs (w0 := w) w.heap.size rfl _ _ rfl _ (l1.take m1) _ (l2.take m2) K1.out K2.out rfl rfl HB.out hwz (by rw [← L1.out, ← L2.out]; omega) ?_); intro v4 w4 hs4 hB4; obtain ⟨A4, c4, rfl⟩ := strs_len hs4; have HB4 := Lib.hid hB4; clear hs4 hB4)
  go_ret
  exact ⟨_, _, _, rfl, HB4.out⟩
set_option maxHeartbeats 2000000 in
theorem parseRuby_any (s : ByteArray) (w : World) (a ae ai au : Addr) (hG : Gl w a ae ai au) (hs : s.size ≤ 262144) (ha : Asc (bs s)) : Calls Tryz.prog 32 #[.string s] w (AggPost w) := by
  have HA := Lib.hid ha
  have HG := Lib.hid (gl_below hG ((Below.refl w.heap.size w).alloc (Nat.le_refl _) (.cells #[.string (mk []), .slice none 0 0] 69)))
  clear ha hG
  go_enter Tryz.func32, Tryz.ntmps32
  go_wp2_with fail
  refine (canonRuby_any s _ (by omega) HA.out).mono ?_
  rintro e w1 ⟨t1, rfl, hz1, b1⟩
  have B1 := Lib.hid b1
  have HG1 := Lib.hid (gl_below HG.out b1)
  have hs1 := b1.size
  simp at hs1
  clear b1
  go_wp2_with fail
  refine (zzSplit_any t1 46 _ (by omega)).mono ?_
  rintro e w2 ⟨v2, rfl, hS, b2⟩
  have hpl := pieces_len 46 t1
  have HPS : Hid (∀ x ∈ pieces 46 t1, x.size ≤ 1048576) := fun x hx => by have := pieces_size hx; omega
  obtain ⟨A, c, rfl⟩ := strs_len hS
  have HS := Lib.hid hS
  have B2 := Lib.hid (B1.out.trans (b2.mono B1.out.size))
  have HG2 := Lib.hid (gl_below HG1.out b2)
  clear hS b2
  go_wp2_with fail
  refine (canonSegs_any _ (pieces 46 t1) A _ c _ a ae ai au HG2.out HS.out (by omega) HPS.out).mono ?_
  rintro e w3 ⟨A3, n3, c3, rfl, b3⟩
  have B3 := Lib.hid (B2.out.trans (b3.mono B2.out.size))
  have hk := kept_blk (w := w) (o := .cells #[.string (mk []), .slice none 0 0] 69) (by have := B3.out; rw [World.size_alloc] at this; exact this)
  obtain ⟨⟨q0, q1⟩, r0, r1⟩ := cells2 hk
  have B4 := Lib.hid (((Below.refl w.heap.size w).alloc (Nat.le_refl _) (.cells #[.string (mk []), .slice none 0 0] 69)).trans (B3.out.mono (by simp)))
  clear b3 hk
  go_wp2_with fail
  refine bodyPost_ret (by simp [results, Tryz.results32, go_sem, *]; try rfl) rfl ?_
  exact ⟨⟨_, rfl⟩, Below.setCell (Below.setCell B4.out (Nat.le_refl _) _) (Nat.le_refl _) _⟩

end Go.Proofs.YtoofphhfealcaaaGreatDoor
