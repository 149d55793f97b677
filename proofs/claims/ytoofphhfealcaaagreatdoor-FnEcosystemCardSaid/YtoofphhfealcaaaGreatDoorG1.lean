/-
  WALKS: Packagist's versions, at texts of ASCII.
-/
import Derived.Test.YtoofphhfealcaaaGreatDoorF2
import Derived.Deep.RegionLaw
import Derived.Lib.ConvBytes
import Derived.Maps.AppendAt
namespace Go.Proofs.YtoofphhfealcaaaGreatDoor
open Go.RowKit

/-- Bytes in a block, that may be written. -/
def ByR (w : World) (b : Nat) (l : List UInt8) : Prop := ∀ j (h : j < l.length), w.cell? ⟨b, j, none⟩ = some (.int .u8 (l[j].toNat : Int)) ∧ w.frozen? ⟨b, j, none⟩ = false
theorem byR_new (w : World) (s : ByteArray) : ByR (Lib.bytesWorld w 5 s) w.heap.size (bs s) := by
  intro j h
  have hj : j < s.size := by rw [bs_len] at h; exact h
  refine ⟨?_, ?_⟩
  · rw [Lib.bytesWorld_cell w 5 s j hj]
    simp [bs, List.getD, hj]
  · have h1 := Lib.bytesWorld_at_new w 5 s
    have h2 : j < (Lib.bytesCells w 5 s).size := by simp [Lib.bytesCells]; omega
    have h3 : (World.frozen? (Lib.bytesWorld w 5 s) ⟨w.heap.size, j, none⟩) = (decide ((Lib.bytesCells w 5 s).size ≤ j) && decide (j < (Lib.bytesCells w 5 s).size + 1)) := by simp [World.frozen?, h1]
    rw [h3]
    simp; omega
theorem byR_set {w : World} {b : Nat} {l : List UInt8} (h : ByR w b l) (k : Nat) (c : UInt8) (hk : k < l.length) : ByR (w.setCell ⟨b, k, none⟩ (.int .u8 (c.toNat : Int))) b (l.set k c) := by
  intro j hj
  rw [List.length_set] at hj
  obtain ⟨h1, h2⟩ := h j hj
  refine ⟨?_, by rw [World.frozen?_setCell]; exact h2⟩
  by_cases e : j = k
  · subst e
    have := World.cell?_setCell_same w ⟨b, j, none⟩ (.int .u8 (c.toNat : Int)) (by rw [h1])
    simpa using this
  · rw [World.cell?_setCell_other _ _ _ _ (by intro h; injection h with h; omega), h1]
    simp [Ne.symm e]
theorem byR_str {w : World} {b : Nat} {l : List UInt8} (h : ByR w b l) (n c : Nat) (hn : l.length = n) : (convert 148 9 (.slice (some ⟨b, 0, none⟩) n c)).run Tryz.prog w = .ok (.string (mk l)) w := by
  subst hn
  refine run_convert_bytes_back w 148 9 5 ⟨b, 0, none⟩ c l und148 und5 und9 (fun j hj => ?_)
  have ha : (⟨b, 0, none⟩ : Addr).add j = ⟨b, j, none⟩ := by
    unfold Addr.add
    split <;> simp_all
  rw [ha]
  exact (h j hj).1
/-- A text of n bytes at the most, of ASCII. -/
structure AscN (t : ByteArray) (n : Nat) : Prop where
  asc : Asc (bs t)
  size : t.size ≤ n
/-- A text, and nothing that was there has changed. -/
def StrPost (w : World) (n : Nat) (e : Ending) (w' : World) : Prop := ∃ t, e = .returned (.string t) ∧ AscN t n ∧ Below w.heap.size w w'
theorem asc_set {l : List UInt8} (h : Asc l) (k : Nat) (c : UInt8) (hc : c.toNat < 128) : Asc (l.set k c) := by
  intro x hx
  rcases List.mem_or_eq_of_mem_set hx with h1 | rfl
  · exact h x h1
  · exact hc

theorem three_of {n a b c : Int} (h : n = a ∨ n = b ∨ n = c) : (n == a) = true ∨ ((n == a) = false ∧ (n == b) = true) ∨ ((n == a) = false ∧ (n == b) = false ∧ (n == c) = true) := by
  by_cases h1 : n = a
  · exact .inl (by simpa using h1)
  · by_cases h2 : n = b
    · exact .inr (.inl ⟨by simpa using h1, by simpa using h2⟩)
    · exact .inr (.inr ⟨by simpa using h1, by simpa using h2, by simp; omega⟩)
set_option maxHeartbeats 2000000 in
theorem zzPointed_any (s : ByteArray) (w : World) (hs : s.size ≤ 1048576) (ha : Asc (bs s)) : Calls Tryz.prog 87 #[.string s] w (StrPost w s.size) := by
  have hcv : ∀ W, (convert 9 148 (.string s)).run Tryz.prog W = .ok (.slice (some ⟨W.heap.size, 0, none⟩) s.size (grownCap W s.size 0 5)) (Lib.bytesWorld W 5 s) := fun W => Lib.run_convert_string_bytes W 9 148 5 s und9 und148 und5
  have HA := Lib.hid ha
  clear ha
  go_enter Tryz.func87, Tryz.ntmps87
  go_wp2_with fail
  generalize hcap : grownCap w s.size 0 5 = cp
  have HC := Lib.hid hcap
  clear hcap
  go_loopw [10] (fun i wr => ∃ (k : Nat) (l : List UInt8), i = .int .i64 k ∧ k ≤ s.size ∧ Hid (l.length = s.size) ∧ Hid (Asc l) ∧ Hid (ByR wr w.heap.size l) ∧ Hid (Below w.heap.size w wr))
    (fun i _ => s.size - (intOf i).toNat)
  case atStart => exact ⟨0, bs s, rfl, Nat.zero_le _, bs_len s, HA.out, byR_new w s, bytesWorld_below w s⟩
  case round =>
    obtain ⟨k, l, rfl, hk, HL, HAS, HR, HB⟩ := hrel
    by_cases hlt : k < s.size
    · obtain ⟨hck, hfk⟩ := HR.out k (by rw [HL.out]; exact hlt)
      have hset := HR.out
      have HS : Hid (ByR (wr.setCell ⟨w.heap.size, k, none⟩ (.int .u8 46)) w.heap.size (l.set k 46)) := byR_set HR.out k 46 (by rw [HL.out]; exact hlt)
      clear hset
      generalize hc : l[k]'(by rw [HL.out]; exact hlt) = c at hck
      have HCC := Lib.hid hc
      clear hc
      by_cases h1 : (c.toNat : Int) = 45 ∨ (c.toNat : Int) = 95 ∨ (c.toNat : Int) = 43
      · have HL2 : Hid ((l.set k 46).length = s.size) := by show _ = _; rw [List.length_set]; exact HL.out
        have HA2 : Hid (Asc (l.set k 46)) := asc_set HAS.out k 46 (by decide)
        have HB2 : Hid (Below w.heap.size w (wr.setCell ⟨w.heap.size, k, none⟩ (.int .u8 46))) := Below.setCell HB.out (Nat.le_refl _) _
        obtain ⟨q1, q2, q3⟩ | ⟨q1, q2, q3⟩ | ⟨q1, q2, q3⟩ : (((c.toNat : Int) == 45) = true ∧ True ∧ True) ∨ (((c.toNat : Int) == 45) = false ∧ ((c.toNat : Int) == 95) = true ∧ True) ∨ (((c.toNat : Int) == 45) = false ∧ ((c.toNat : Int) == 95) = false ∧ ((c.toNat : Int) == 43) = true) := by
          rcases three_of h1 with h | h | h
          · exact .inl ⟨h, trivial, trivial⟩
          · exact .inr (.inl ⟨h.1, h.2, trivial⟩)
          · exact .inr (.inr h)
        all_goals
          clear h1
          go_wp2_with fail
          go_roundw
          case rel => exact ⟨k + 1, _, by go_num, by omega, HL2, HA2, HS, HB2⟩
          case measure => simp [intOf]; omega
      · have q1 : ((c.toNat : Int) == 45) = false := by rw [beq_eq_false_iff_ne]; omega
        have q2 : ((c.toNat : Int) == 95) = false := by rw [beq_eq_false_iff_ne]; omega
        have q3 : ((c.toNat : Int) == 43) = false := by rw [beq_eq_false_iff_ne]; omega
        clear h1
        go_wp2_with fail
        go_roundw
        case rel => exact ⟨k + 1, l, by go_num, by omega, HL, HAS, HR, HB⟩
        case measure => simp [intOf]; omega
    · have hst := byR_str HR.out s.size cp HL.out
      go_wp2_with fail
      go_ret
      exact ⟨_, rfl, ⟨by rw [bs_mk]; exact HAS.out, by rw [mk_size, HL.out]; exact Nat.le_refl _⟩, HB.out⟩

section
variable {ops : Array Oper} {o : Oper} {a : Act} {W : World} {K : Act → World → Prop} {Q : Exit → Act → World → Prop} {E : Prop}
/-- append(b, s...) of a string, in a region that draws its order. -/
theorem step_bstr (base : Nat) (hgd : o.guard = none) (sl x : Operand)
    (ho : o.op = .call { callee := .builtin .append, args := #[sl, x], argTypes := #[148, 9] })
    (v : Value) (l : List UInt8) (s : ByteArray) (HO : Byt W base v l) (hs : a.eval sl = v) (hx : a.eval x = .string s)
    (hbase : base ≤ W.heap.size) (hl : l.length + s.size ≤ 140737488355328)
    (h : ∀ v1 w1, Byt w1 base v1 (l ++ bs s) → W.grownBy w1 v.ownBlock → K (a.put o.dst v1) w1) :
    if Region.wanted o (yielded ops a.tmps) = true then Oper.wp Tryz.prog o a W K Q else E := by
  obtain ⟨i, hi, hz⟩ := Option.map_eq_some_iff.1 info5
  injection hz with z1 z2
  injection z2 with z2 z3
  have hw : Region.wanted o (yielded ops a.tmps) = true := by simp [Region.wanted, hgd]
  rw [if_pos hw]
  obtain ⟨v', w', hr, h2, h3, h4⟩ := Lib.run_append_own_string (P := Tryz.prog) W base 148 9 o.type 5 i und148 und9 hi z1 z2 z3 v l.length _ HO s (by unfold maxLen; omega) hl hbase
  unfold Oper.wp execOp
  simp only [ho, resolve, invoke, builtin, Sem.run_bind, Sem.run_pure, Result.andThen_ok, List.map_toArray, List.map_cons, List.map_nil, hs, hx, hr]
  refine h v' w' ?_ h3
  have e : Lib.byteCells l ++ Lib.strCells s = Lib.byteCells (l ++ bs s) := by rw [Lib.byteCells_append]; rfl
  rw [e] at h2
  unfold Byt
  rw [List.length_append, bs_len]
  exact h2
/-- append(b, c) of one byte, in a region that draws its order. -/
theorem step_byte (base : Nat) (hgd : o.guard = none) (sl x : Operand)
    (ho : o.op = .call { callee := .builtin .append, args := #[sl, x], argTypes := #[148, 148] })
    (v : Value) (l : List UInt8) (g : Nat) (c : UInt8) (HO : Byt W base v l) (hs : a.eval sl = v) (hx : a.eval x = .slice (some ⟨g, 0, none⟩) 1 1) (hc : W.cell? ⟨g, 0, none⟩ = some (.int .u8 (c.toNat : Int)))
    (hbase : base ≤ W.heap.size) (hl : l.length + 1 ≤ 140737488355328)
    (h : ∀ v1 w1, Byt w1 base v1 (l ++ [c]) → W.grownBy w1 v.ownBlock → K (a.put o.dst v1) w1) :
    if Region.wanted o (yielded ops a.tmps) = true then Oper.wp Tryz.prog o a W K Q else E := by
  obtain ⟨i, hi, hz⟩ := Option.map_eq_some_iff.1 info5
  injection hz with z1 z2
  injection z2 with z2 z3
  have hw : Region.wanted o (yielded ops a.tmps) = true := by simp [Region.wanted, hgd]
  rw [if_pos hw]
  obtain ⟨v', w', hr, h2, h3, h4, h5⟩ := run_append_own_at (P := Tryz.prog) W base 148 o.type 5 i (.int .u8 0) 1 1 und148 hi z1 z2 z3 rfl (by omega) v l.length _ HO ⟨g, 0, none⟩ 1 1 [.int .u8 (c.toNat : Int)] rfl
    (fun j u hj => by
      match j, hj with
      | 0, hj => simp at hj; subst hj; simpa [Addr.add] using hc) (by simp [Value.oneCell']) (by unfold maxLen; omega) (by omega) hbase
  unfold Oper.wp execOp
  simp only [ho, resolve, invoke, builtin, Sem.run_bind, Sem.run_pure, Result.andThen_ok, List.map_toArray, List.map_cons, List.map_nil, hs, hx, hr]
  refine h v' w' ?_ h3
  have e : Lib.byteCells l ++ [.int .u8 (c.toNat : Int)] = Lib.byteCells (l ++ [c]) := by rw [Lib.byteCells_append]; rfl
  rw [e] at h2
  unfold Byt
  rw [List.length_append]
  exact h2
end
theorem byt_below {w w1 : World} {base : Nat} {v : Value} {l : List UInt8} (h : Byt w base v l) (hb : Below w.heap.size w w1) : Byt w1 base v l := row_below h hb
theorem byt_alloc {w : World} {base : Nat} {v : Value} {l : List UInt8} (h : Byt w base v l) (o : Obj) : Byt (w.alloc o) base v l := World.ownsRow.alloc h o
theorem byt_grown {w w1 : World} {v : Value} {g : Nat} {c : UInt8} (hg : w.grownBy w1 v.ownBlock) (hc : w.cell? ⟨g, 0, none⟩ = some (.int .u8 (c.toNat : Int))) (hn : v.ownBlock ≠ some g) : w1.cell? ⟨g, 0, none⟩ = some (.int .u8 (c.toNat : Int)) := by
  have hl : g < w.heap.size := by
    rcases Nat.lt_or_ge g w.heap.size with h | h
    · exact h
    · simp [World.cell?, Array.getElem?_eq_none h] at hc
  have := hg.block g hl (fun e => hn e.symm)
  simp only [World.cell?] at *
  rw [this]; exact hc
theorem below_grownB {w W w1 : World} {base : Nat} {v : Value} {l : List UInt8} (h : Below base w W) (hB : base ≤ W.heap.size) (HO : Byt W base v l) (hg : W.grownBy w1 v.ownBlock) : Below base w w1 :=
  h.trans ⟨hg.os, hg.tape, hg.output, hg.size, fun k hk => hg.block k (by omega) (fun e => by have := (HO.lt k e.symm).1; omega)⟩

/-- The first byte of what is left. -/
theorem drop_first (s : ByteArray) (i : Nat) (h : i < s.size) : (s.extract i s.size).data.toList[0]? = some (s[i]'h) := by
  have h1 : (s.extract i s.size).data.toList = bs (s.extract i s.size) := rfl
  rw [h1, bs_extract, bs_get s i h]
  have h2 : i < (bs s).length := by rw [bs_len]; exact h
  rw [List.getElem?_take, if_pos (by omega), List.getElem?_drop, Nat.add_zero, List.getElem?_eq_getElem h2]
theorem decode_any (s : ByteArray) (i : Nat) (h : i < s.size) (hc : (s[i]'h).toNat < 128) (w : World) :
    Calls Tryz.prog 117 #[.string (s.extract i s.size)] w fun e w' => e = .returned (.tuple #[.int .i32 (s[i]'h).toNat, .int .i64 1]) ∧ w = w' := by
  refine (Tryz.utf8_DecodeRuneInString_ascii _ _ w (drop_first s i h) hc).mono ?_
  rintro e w' ⟨rfl, rfl⟩
  exact ⟨rfl, rfl⟩
theorem asc_app {l m : List UInt8} (h : Asc l) (k : Asc m) : Asc (l ++ m) := by
  intro c hc
  rw [List.mem_append] at hc
  rcases hc with hc | hc
  · exact h c hc
  · exact k c hc
theorem asc_ext {s : ByteArray} (h : Asc (bs s)) (a b : Nat) : Asc (bs (s.extract a b)) := by
  intro c hc
  rw [bs_extract] at hc
  exact h c (List.mem_of_mem_drop (List.mem_of_mem_take hc))

theorem slice_ss (s : ByteArray) (a b : Nat) (h1 : a ≤ b) (h2 : b ≤ s.size) (A B : Int) (hA : A = (a : Int)) (hB : B = (b : Int)) (W : World) : (Instr.slice 9 (.string s) (some (.int .i64 A)) (some (.int .i64 B)) none).run Tryz.prog W = .ok (.string (s.extract a b)) W := by
  subst hA hB
  have := run_slice_string (P := Tryz.prog) (w := W) 9 s .i64 .i64 (a : Int) (b : Int) und9 (by omega) (by omega) (by omega)
  simpa using this
theorem byt_drew {w : World} {base : Nat} {v : Value} {l : List UInt8} (h : Byt w base v l) : Byt w.drew base v l := World.ownsRow.drew h
set_option maxRecDepth 100000 in
set_option maxHeartbeats 8000000 in
theorem zzParted_any (s : ByteArray) (first : Bool) (w : World) (hs : s.size ≤ 4194304) (ha : Asc (bs s)) : Calls Tryz.prog 88 #[.string s, .bool first] w (StrPost w (2 * s.size)) := by
  have HA := Lib.hid ha
  clear ha
  go_enter Tryz.func88, Tryz.ntmps88
  go_wp2_with fail
  go_loopw [5, 6] (fun v i wr => ∃ (k : Nat) (l : List UInt8), i = .int .i64 k ∧ k ≤ s.size ∧ l.length ≤ 2 * k ∧ Hid (Asc l) ∧ Hid (Byt wr w.heap.size v l) ∧ Hid (Below w.heap.size w wr))
    (fun _ i _ => s.size - (intOf i).toNat)
  case atStart => exact ⟨0, [], rfl, Nat.zero_le _, Nat.le_refl _, (by intro c hc; simp at hc), byt_nil _ _, Below.refl _ _⟩
  case round =>
    obtain ⟨k, l, rfl, hk, hl, HL, HB, HW⟩ := hrel
    have hww := HW.out.size
    by_cases hlt : k < s.size
    · have HK : Hid ((s[k]'hlt).toNat < 128) := HA.out _ (by rw [bs_get s k hlt]; exact List.getElem_mem _)
      have skip : Hid (Asc (l ++ bs (s.extract k (k + 1)))) := asc_app HL.out (asc_ext HA.out _ _)
      by_cases c1 : (((s[k]'hlt).toNat : Int) == 46) = true
      · go_wp2_with (first
          | (go_at_call 117; refine (decode_any s k hlt HK.out _).mono ?_; rintro e w' ⟨rfl, rfl⟩)
          | (at_builtin; (refine app_bstr (w0 := w) w.heap.size rfl _ _ rfl _ l (s.extract k (k + 1)) HB.out rfl rfl HW.out hww (by simp; omega) ?_); intro v1 w1 hown1 hbel1 _; have HB1 := Lib.hid hown1; have HW1 := Lib.hid hbel1; clear hown1 hbel1))
        go_roundw
        case rel => exact ⟨k + 1, _, by go_num, by omega, by rw [List.length_append, bs_len]; simp; omega, skip, HB1, HW1⟩
        case measure => simp [intOf]; omega
      · have c1' : (((s[k]'hlt).toNat : Int) == 46) = false := by simpa using c1
        clear c1
        cases hd : isDig (s[k]'hlt) <;> have HD := Lib.hid hd <;> clear hd <;> cases first
        · by_cases h2 : k + 1 < s.size
          · have HK2 : Hid ((s[k + 1]'h2).toNat < 128) := HA.out _ (by rw [bs_get s (k + 1) h2]; exact List.getElem_mem _)
            by_cases c3 : (((s[k + 1]'h2).toNat : Int) == 46) = true
            · go_wp2_with (first
                | (go_at_call 117; refine (decode_any s k hlt HK.out _).mono ?_; rintro e w' ⟨rfl, rfl⟩)
                | (go_at_call 97; refine (zzDigit_any _ _).mono ?_; rintro e w' ⟨rfl, rfl⟩; rw [HD.out])
                | (at_builtin; (refine app_bstr (w0 := w) w.heap.size rfl _ _ rfl _ l (s.extract k (k + 1)) HB.out rfl rfl HW.out hww (by simp; omega) ?_); intro v1 w1 hown1 hbel1 _; have HB1 := Lib.hid hown1; have HW1 := Lib.hid hbel1; clear hown1 hbel1))
              go_roundw
              case rel => exact ⟨k + 1, _, by go_num, by omega, by rw [List.length_append, bs_len]; simp; omega, skip, HB1, HW1⟩
              case measure => simp [intOf]; omega
            · have c3' : (((s[k + 1]'h2).toNat : Int) == 46) = false := by simpa using c3
              clear c3
              cases hd2 : isDig (s[k + 1]'h2) <;> have HD2 := Lib.hid hd2 <;> clear hd2
              · go_wp2_with (first
                  | (go_at_call 117; refine (decode_any s k hlt HK.out _).mono ?_; rintro e w' ⟨rfl, rfl⟩)
                  | (go_at_call 97; refine (zzDigit_any _ _).mono ?_; rintro e w' ⟨rfl, rfl⟩; (first | rw [HD.out] | rw [HD2.out]))
                  | (at_builtin; (refine app_bstr (w0 := w) w.heap.size rfl _ _ rfl _ l (s.extract k (k + 1)) HB.out rfl rfl HW.out hww (by simp; omega) ?_); intro v1 w1 hown1 hbel1 _; have HB1 := Lib.hid hown1; have HW1 := Lib.hid hbel1; clear hown1 hbel1))
                go_roundw
                case rel => exact ⟨k + 1, _, by go_num, by omega, by rw [List.length_append, bs_len]; simp; omega, skip, HB1, HW1⟩
                case measure => simp [intOf]; omega
              · have hs1 := fun W => slice_ss s k (k + 1) (by omega) (by omega) (k : Int) ((k : Int) + 1) rfl (by omega) W
                have hs2 := fun W => slice_ss s (k + 1) (k + 2) (by omega) (by omega) ((k : Int) + 1) ((k : Int) + 1 + 1) (by omega) (by omega) W
                have e1 : IntKind.i64.wrap ((k : Int) + 1 + 1) = (k : Int) + 1 + 1 := IntWalk.i64_in _ (by omega)
                have B1 := Lib.hid (byt_drew HB.out)
                have B2 := Lib.hid (byt_alloc (byt_drew HB.out) (.cells #[.int .u8 46] 5))
                have hE1 : (l ++ bs (s.extract k (k + 1))).length = l.length + 1 := by rw [List.length_append, bs_len]; simp; omega
                have HE1 := Lib.hid hE1
                clear hE1
                go_upto_region 10 with (first
                  | (go_at_call 117; ((with_reducible refine (decode_any s k hlt HK.out _).mono ?_); rintro e w' ⟨rfl, rfl⟩))
                  | (go_at_call 117; ((with_reducible refine (decode_any s (k + 1) h2 HK2.out _).mono ?_); rintro e w' ⟨rfl, rfl⟩))
                  | (go_at_call 97; refine (zzDigit_any _ _).mono ?_; rintro e w' ⟨rfl, rfl⟩; (first | rw [HD.out] | rw [HD2.out])))
                go_region_law (first
                  | (refine step_bstr (base := w.heap.size) rfl (.tmp 70) (.tmp 74) rfl _ l (s.extract k (k + 1)) B1.out (by first | (simp [Act.eval]; done) | simp [Act.eval, Act.put]) (by first | (simp [Act.eval]; done) | simp [Act.eval, Act.put]) (by simp; omega) (by simp; omega) ?_; intro v1 w1 hb1 hg1; have HB1 := Lib.hid hb1; have HW1 := Lib.hid (below_grownB HW.out.drew (by simp; omega) B1.out hg1); have hw1 := hg1.size; simp at hw1; have HC1 : Hid (Byt (w1.alloc (.cells #[.int .u8 46] 5)) w.heap.size v1 (l ++ bs (s.extract k (k + 1)))) := byt_alloc hb1 _; clear hb1 hg1)
                  | (refine step_bstr (base := w.heap.size) rfl (.tmp 70) (.tmp 74) rfl _ l (s.extract k (k + 1)) B2.out (by first | (simp [Act.eval]; done) | simp [Act.eval, Act.put]) (by first | (simp [Act.eval]; done) | simp [Act.eval, Act.put]) (by simp; omega) (by simp; omega) ?_; intro v1 w1 hb1 hg1; have HB1 := Lib.hid hb1; have HW1 := Lib.hid (below_grownB (HW.out.drew.alloc (by simp; omega) _) (by simp; omega) B2.out hg1); have hw1 := hg1.size; simp at hw1; have hcc := byt_grown (g := wr.heap.size) (c := 46) hg1 (by simp) (fun e => by have := (HB.out.lt _ e).2; omega); clear hb1 hg1)
                  | (refine step_byte (base := w.heap.size) rfl (.tmp 75) (.tmp 76) rfl v1 (l ++ bs (s.extract k (k + 1))) w1.heap.size 46 HC1.out (by first | (simp [Act.eval]; done) | simp [Act.eval, Act.put]) (by first | (simp [Act.eval]; done) | simp [Act.eval, Act.put]) (by simp) (by simp; omega) (by rw [HE1.out]; omega) ?_; intro v2 w2 hb2 hg2; have HB2 := Lib.hid hb2; have HW2 := Lib.hid (below_grownB (HW1.out.alloc (by omega) _) (by simp; omega) HC1.out hg2); have hw2 := hg2.size; simp at hw2; clear hb2 hg2)
                  | (refine step_byte (base := w.heap.size) rfl (.tmp 75) (.tmp 76) rfl v1 (l ++ bs (s.extract k (k + 1))) wr.heap.size 46 HB1.out (by first | (simp [Act.eval]; done) | simp [Act.eval, Act.put]) (by first | (simp [Act.eval]; done) | simp [Act.eval, Act.put]) hcc (by omega) (by rw [HE1.out]; omega) ?_; intro v2 w2 hb2 hg2; have HB2 := Lib.hid hb2; have HW2 := Lib.hid (below_grownB HW1.out (by omega) HB1.out hg2); have hw2 := hg2.size; clear hb2 hg2)
                  | (refine step_bstr (base := w.heap.size) rfl (.tmp 77) (.tmp 83) rfl v2 (l ++ bs (s.extract k (k + 1)) ++ [46]) (s.extract (k + 1) (k + 2)) HB2.out (by first | (simp [Act.eval]; done) | simp [Act.eval, Act.put]) (by first | (simp [Act.eval]; done) | simp [Act.eval, Act.put]) (by omega) (by rw [List.length_append, HE1.out]; simp; omega) ?_; intro v3 w3 hb3 hg3; have HB3 := Lib.hid hb3; have HW3 := Lib.hid (below_grownB HW2.out (by omega) HB2.out hg3); clear hb3 hg3))
                all_goals
                  have HA3 : Hid (Asc (l ++ bs (s.extract k (k + 1)) ++ [46] ++ bs (s.extract (k + 1) (k + 2)))) := asc_app (asc_app skip.out (by intro c hc; simp at hc; subst hc; decide)) (asc_ext HA.out _ _)
                  go_wp2_with fail
                  go_roundw
                  case rel => exact ⟨k + 2, _, by go_num, by omega, by rw [List.length_append, List.length_append, HE1.out, bs_len]; simp; omega, HA3, HB3, HW3⟩
                  case measure => simp [intOf]; omega
          · go_wp2_with (first
              | (go_at_call 117; refine (decode_any s k hlt HK.out _).mono ?_; rintro e w' ⟨rfl, rfl⟩)
              | (go_at_call 97; refine (zzDigit_any _ _).mono ?_; rintro e w' ⟨rfl, rfl⟩; rw [HD.out])
              | (at_builtin; (refine app_bstr (w0 := w) w.heap.size rfl _ _ rfl _ l (s.extract k (k + 1)) HB.out rfl rfl HW.out hww (by simp; omega) ?_); intro v1 w1 hown1 hbel1 _; have HB1 := Lib.hid hown1; have HW1 := Lib.hid hbel1; clear hown1 hbel1))
            go_roundw
            case rel => exact ⟨k + 1, _, by go_num, by omega, by rw [List.length_append, bs_len]; simp; omega, skip, HB1, HW1⟩
            case measure => simp [intOf]; omega
        · go_wp2_with (first
            | (go_at_call 117; refine (decode_any s k hlt HK.out _).mono ?_; rintro e w' ⟨rfl, rfl⟩)
            | (go_at_call 97; refine (zzDigit_any _ _).mono ?_; rintro e w' ⟨rfl, rfl⟩; rw [HD.out])
            | (at_builtin; (refine app_bstr (w0 := w) w.heap.size rfl _ _ rfl _ l (s.extract k (k + 1)) HB.out rfl rfl HW.out hww (by simp; omega) ?_); intro v1 w1 hown1 hbel1 _; have HB1 := Lib.hid hown1; have HW1 := Lib.hid hbel1; clear hown1 hbel1))
          go_roundw
          case rel => exact ⟨k + 1, _, by go_num, by omega, by rw [List.length_append, bs_len]; simp; omega, skip, HB1, HW1⟩
          case measure => simp [intOf]; omega
        · go_wp2_with (first
            | (go_at_call 117; refine (decode_any s k hlt HK.out _).mono ?_; rintro e w' ⟨rfl, rfl⟩)
            | (go_at_call 97; refine (zzDigit_any _ _).mono ?_; rintro e w' ⟨rfl, rfl⟩; rw [HD.out])
            | (at_builtin; (refine app_bstr (w0 := w) w.heap.size rfl _ _ rfl _ l (s.extract k (k + 1)) HB.out rfl rfl HW.out hww (by simp; omega) ?_); intro v1 w1 hown1 hbel1 _; have HB1 := Lib.hid hown1; have HW1 := Lib.hid hbel1; clear hown1 hbel1))
          go_roundw
          case rel => exact ⟨k + 1, _, by go_num, by omega, by rw [List.length_append, bs_len]; simp; omega, skip, HB1, HW1⟩
          case measure => simp [intOf]; omega
        · by_cases h2 : k + 1 < s.size
          · have HK2 : Hid ((s[k + 1]'h2).toNat < 128) := HA.out _ (by rw [bs_get s (k + 1) h2]; exact List.getElem_mem _)
            by_cases c3 : (((s[k + 1]'h2).toNat : Int) == 46) = true
            · go_wp2_with (first
                | (go_at_call 117; refine (decode_any s k hlt HK.out _).mono ?_; rintro e w' ⟨rfl, rfl⟩)
                | (go_at_call 97; refine (zzDigit_any _ _).mono ?_; rintro e w' ⟨rfl, rfl⟩; rw [HD.out])
                | (at_builtin; (refine app_bstr (w0 := w) w.heap.size rfl _ _ rfl _ l (s.extract k (k + 1)) HB.out rfl rfl HW.out hww (by simp; omega) ?_); intro v1 w1 hown1 hbel1 _; have HB1 := Lib.hid hown1; have HW1 := Lib.hid hbel1; clear hown1 hbel1))
              go_roundw
              case rel => exact ⟨k + 1, _, by go_num, by omega, by rw [List.length_append, bs_len]; simp; omega, skip, HB1, HW1⟩
              case measure => simp [intOf]; omega
            · have c3' : (((s[k + 1]'h2).toNat : Int) == 46) = false := by simpa using c3
              clear c3
              cases hd2 : isDig (s[k + 1]'h2) <;> have HD2 := Lib.hid hd2 <;> clear hd2
              · have hs1 := fun W => slice_ss s k (k + 1) (by omega) (by omega) (k : Int) ((k : Int) + 1) rfl (by omega) W
                have hs2 := fun W => slice_ss s (k + 1) (k + 2) (by omega) (by omega) ((k : Int) + 1) ((k : Int) + 1 + 1) (by omega) (by omega) W
                have e1 : IntKind.i64.wrap ((k : Int) + 1 + 1) = (k : Int) + 1 + 1 := IntWalk.i64_in _ (by omega)
                have B1 := Lib.hid (byt_drew HB.out)
                have B2 := Lib.hid (byt_alloc (byt_drew HB.out) (.cells #[.int .u8 46] 5))
                have hE1 : (l ++ bs (s.extract k (k + 1))).length = l.length + 1 := by rw [List.length_append, bs_len]; simp; omega
                have HE1 := Lib.hid hE1
                clear hE1
                go_upto_region 10 with (first
                  | (go_at_call 117; ((with_reducible refine (decode_any s k hlt HK.out _).mono ?_); rintro e w' ⟨rfl, rfl⟩))
                  | (go_at_call 117; ((with_reducible refine (decode_any s (k + 1) h2 HK2.out _).mono ?_); rintro e w' ⟨rfl, rfl⟩))
                  | (go_at_call 97; refine (zzDigit_any _ _).mono ?_; rintro e w' ⟨rfl, rfl⟩; (first | rw [HD.out] | rw [HD2.out])))
                go_region_law (first
                  | (refine step_bstr (base := w.heap.size) rfl (.tmp 70) (.tmp 74) rfl _ l (s.extract k (k + 1)) B1.out (by first | (simp [Act.eval]; done) | simp [Act.eval, Act.put]) (by first | (simp [Act.eval]; done) | simp [Act.eval, Act.put]) (by simp; omega) (by simp; omega) ?_; intro v1 w1 hb1 hg1; have HB1 := Lib.hid hb1; have HW1 := Lib.hid (below_grownB HW.out.drew (by simp; omega) B1.out hg1); have hw1 := hg1.size; simp at hw1; have HC1 : Hid (Byt (w1.alloc (.cells #[.int .u8 46] 5)) w.heap.size v1 (l ++ bs (s.extract k (k + 1)))) := byt_alloc hb1 _; clear hb1 hg1)
                  | (refine step_bstr (base := w.heap.size) rfl (.tmp 70) (.tmp 74) rfl _ l (s.extract k (k + 1)) B2.out (by first | (simp [Act.eval]; done) | simp [Act.eval, Act.put]) (by first | (simp [Act.eval]; done) | simp [Act.eval, Act.put]) (by simp; omega) (by simp; omega) ?_; intro v1 w1 hb1 hg1; have HB1 := Lib.hid hb1; have HW1 := Lib.hid (below_grownB (HW.out.drew.alloc (by simp; omega) _) (by simp; omega) B2.out hg1); have hw1 := hg1.size; simp at hw1; have hcc := byt_grown (g := wr.heap.size) (c := 46) hg1 (by simp) (fun e => by have := (HB.out.lt _ e).2; omega); clear hb1 hg1)
                  | (refine step_byte (base := w.heap.size) rfl (.tmp 75) (.tmp 76) rfl v1 (l ++ bs (s.extract k (k + 1))) w1.heap.size 46 HC1.out (by first | (simp [Act.eval]; done) | simp [Act.eval, Act.put]) (by first | (simp [Act.eval]; done) | simp [Act.eval, Act.put]) (by simp) (by simp; omega) (by rw [HE1.out]; omega) ?_; intro v2 w2 hb2 hg2; have HB2 := Lib.hid hb2; have HW2 := Lib.hid (below_grownB (HW1.out.alloc (by omega) _) (by simp; omega) HC1.out hg2); have hw2 := hg2.size; simp at hw2; clear hb2 hg2)
                  | (refine step_byte (base := w.heap.size) rfl (.tmp 75) (.tmp 76) rfl v1 (l ++ bs (s.extract k (k + 1))) wr.heap.size 46 HB1.out (by first | (simp [Act.eval]; done) | simp [Act.eval, Act.put]) (by first | (simp [Act.eval]; done) | simp [Act.eval, Act.put]) hcc (by omega) (by rw [HE1.out]; omega) ?_; intro v2 w2 hb2 hg2; have HB2 := Lib.hid hb2; have HW2 := Lib.hid (below_grownB HW1.out (by omega) HB1.out hg2); have hw2 := hg2.size; clear hb2 hg2)
                  | (refine step_bstr (base := w.heap.size) rfl (.tmp 77) (.tmp 83) rfl v2 (l ++ bs (s.extract k (k + 1)) ++ [46]) (s.extract (k + 1) (k + 2)) HB2.out (by first | (simp [Act.eval]; done) | simp [Act.eval, Act.put]) (by first | (simp [Act.eval]; done) | simp [Act.eval, Act.put]) (by omega) (by rw [List.length_append, HE1.out]; simp; omega) ?_; intro v3 w3 hb3 hg3; have HB3 := Lib.hid hb3; have HW3 := Lib.hid (below_grownB HW2.out (by omega) HB2.out hg3); clear hb3 hg3))
                all_goals
                  have HA3 : Hid (Asc (l ++ bs (s.extract k (k + 1)) ++ [46] ++ bs (s.extract (k + 1) (k + 2)))) := asc_app (asc_app skip.out (by intro c hc; simp at hc; subst hc; decide)) (asc_ext HA.out _ _)
                  go_wp2_with fail
                  go_roundw
                  case rel => exact ⟨k + 2, _, by go_num, by omega, by rw [List.length_append, List.length_append, HE1.out, bs_len]; simp; omega, HA3, HB3, HW3⟩
                  case measure => simp [intOf]; omega
              · go_wp2_with (first
                  | (go_at_call 117; refine (decode_any s k hlt HK.out _).mono ?_; rintro e w' ⟨rfl, rfl⟩)
                  | (go_at_call 97; refine (zzDigit_any _ _).mono ?_; rintro e w' ⟨rfl, rfl⟩; (first | rw [HD.out] | rw [HD2.out]))
                  | (at_builtin; (refine app_bstr (w0 := w) w.heap.size rfl _ _ rfl _ l (s.extract k (k + 1)) HB.out rfl rfl HW.out hww (by simp; omega) ?_); intro v1 w1 hown1 hbel1 _; have HB1 := Lib.hid hown1; have HW1 := Lib.hid hbel1; clear hown1 hbel1))
                go_roundw
                case rel => exact ⟨k + 1, _, by go_num, by omega, by rw [List.length_append, bs_len]; simp; omega, skip, HB1, HW1⟩
                case measure => simp [intOf]; omega
          · go_wp2_with (first
              | (go_at_call 117; refine (decode_any s k hlt HK.out _).mono ?_; rintro e w' ⟨rfl, rfl⟩)
              | (go_at_call 97; refine (zzDigit_any _ _).mono ?_; rintro e w' ⟨rfl, rfl⟩; rw [HD.out])
              | (at_builtin; (refine app_bstr (w0 := w) w.heap.size rfl _ _ rfl _ l (s.extract k (k + 1)) HB.out rfl rfl HW.out hww (by simp; omega) ?_); intro v1 w1 hown1 hbel1 _; have HB1 := Lib.hid hown1; have HW1 := Lib.hid hbel1; clear hown1 hbel1))
            go_roundw
            case rel => exact ⟨k + 1, _, by go_num, by omega, by rw [List.length_append, bs_len]; simp; omega, skip, HB1, HW1⟩
            case measure => simp [intOf]; omega
    · have hst := byt_str HB.out
      go_wp2_with fail
      go_ret
      exact ⟨_, rfl, ⟨by rw [bs_mk]; exact HL.out, by rw [mk_size]; omega⟩, HW.out⟩

theorem cells2 {W : World} {b : Nat} {x y : Value} {T : TypeId} (h : W.heap[b]? = some (.cells #[x, y] T)) : (W.cell? ⟨b, 0, none⟩ = some x ∧ W.cell? ⟨b, 1, none⟩ = some y) ∧ W.frozen? ⟨b, 0, none⟩ = false ∧ W.frozen? ⟨b, 1, none⟩ = false := by
  refine ⟨⟨?_, ?_⟩, ?_, ?_⟩ <;> simp [World.cell?, World.frozen?, h]
theorem strPost_len {w : World} {n m : Nat} (h : n ≤ m) {e : Ending} {w' : World} (k : StrPost w n e w') : StrPost w m e w' := by
  obtain ⟨t, h1, h2, h3⟩ := k
  exact ⟨t, h1, ⟨h2.asc, Nat.le_trans h2.size h⟩, h3⟩
theorem ascN_trim {s t : ByteArray} {n : Nat} {p : List UInt8} (h : AscN s n) (ht : bs t = Lib.trimPrefix (bs s) p) : AscN t n :=
  ⟨by rw [ht]; exact asc_trim h.asc, Nat.le_trans (of_trim ht).size h.size⟩
set_option maxHeartbeats 2000000 in
theorem canonPackagist_any (s : ByteArray) (w : World) (hs : s.size ≤ 1048576) (ha : Asc (bs s)) : Calls Tryz.prog 54 #[.string s] w (StrPost w (4 * s.size)) := by
  have HA : Hid (AscN s s.size) := ⟨ha, Nat.le_refl _⟩
  clear ha
  go_enter Tryz.func54, Tryz.ntmps54
  go_wp2_with fail
  refine (trimV _ _ _).mono ?_
  rintro e w1 ⟨t1, rfl, ht1, rfl⟩
  have H1 := Lib.hid (ascN_trim HA.out ht1)
  clear ht1
  go_wp2_with fail
  refine (trimV _ _ _).mono ?_
  rintro e w1 ⟨t2, rfl, ht2, rfl⟩
  have H2 := Lib.hid (ascN_trim H1.out ht2)
  have hz2 := H2.out.size
  clear ht2
  go_wp2_with fail
  refine (zzPointed_any t2 _ (by omega) H2.out.asc).mono ?_
  rintro e w3 ⟨t3, rfl, h3, b3⟩
  have H3 := Lib.hid h3
  have B3 := Lib.hid b3
  have hz3 := h3.size
  clear h3 b3
  go_wp2_with fail
  refine (zzParted_any t3 false _ (by omega) H3.out.asc).mono ?_
  rintro e w4 ⟨t4, rfl, h4, b4⟩
  have H4 := Lib.hid h4
  have B4 := Lib.hid (B3.out.trans (b4.mono B3.out.size))
  have hz4 := h4.size
  clear h4 b4
  go_wp2_with fail
  refine (zzParted_any t4 true _ (by omega) H4.out.asc).mono ?_
  rintro e w5 ⟨t5, rfl, h5, b5⟩
  have H5 := Lib.hid h5
  have B5 := Lib.hid (B4.out.trans (b5.mono B4.out.size))
  have hz5 := h5.size
  clear h5 b5
  go_wp2_with fail
  go_ret
  exact ⟨_, rfl, ⟨H5.out.asc, by omega⟩, B5.out⟩
set_option maxHeartbeats 2000000 in
theorem parsePackagist_any (s : ByteArray) (w : World) (hs : s.size ≤ 1048576) (ha : Asc (bs s)) : Calls Tryz.prog 29 #[.string s] w (AggPost w) := by
  have HA := Lib.hid ha
  clear ha
  go_enter Tryz.func29, Tryz.ntmps29
  go_wp2_with fail
  refine (canonPackagist_any s _ hs HA.out).mono ?_
  rintro e w1 ⟨t1, rfl, h1, b1⟩
  have hz1 := h1.size
  have B1 := Lib.hid b1
  have hs1 := b1.size
  simp at hs1
  clear h1 b1
  go_wp2_with fail
  refine (zzSplit_any t1 46 _ (by omega)).mono ?_
  rintro e w2 ⟨v2, rfl, hS, b2⟩
  obtain ⟨A, c, rfl⟩ := strs_len hS
  have hk := kept_blk (w := w) (o := .cells #[.string (mk []), .slice none 0 0] 62) (by have := B1.out.trans (b2.mono B1.out.size); rw [World.size_alloc] at this; exact this)
  obtain ⟨⟨q0, q1⟩, r0, r1⟩ := cells2 hk
  have B2 := Lib.hid (((Below.refl w.heap.size w).alloc (Nat.le_refl _) (.cells #[.string (mk []), .slice none 0 0] 62)).trans ((B1.out.trans (b2.mono B1.out.size)).mono (by simp)))
  clear hS b2 hk
  go_wp2_with fail
  refine bodyPost_ret (by simp [results, Tryz.results29, go_sem, *]; try rfl) rfl ?_
  exact ⟨⟨_, rfl⟩, Below.setCell (Below.setCell B2.out (Nat.le_refl _) _) (Nat.le_refl _) _⟩

end Go.Proofs.YtoofphhfealcaaaGreatDoor
