/-
  WALKS: Maven's versions, at texts of ASCII: cuts at marks, transitions between digits and others.
  WALKS: Maven's versions, at texts of ASCII: the transitions between digits and others.
  WALKS: Maven's versions, at texts of ASCII: the sorted transitions.
-/
import Derived.Test.YtoofphhfealcaaaGreatDoorI3
import Derived.Test.YtoofphhfealcaaaGreatDoorS
import Derived.Sort.OwnSortedInts
namespace Go.Proofs.YtoofphhfealcaaaGreatDoor
open Go.RowKit

/-- A place in a text of n bytes, or -1. -/
def IdxPost (w : World) (n : Nat) (e : Ending) (w' : World) : Prop := ∃ k : Int, e = .returned (.int .i64 k) ∧ (k = -1 ∨ ∃ i : Nat, k = i ∧ i < n) ∧ Below w.heap.size w w'
/-- What the loop over the text has in hand. -/
structure Ik (w0 wr : World) (k : Nat) (t : ByteArray) (pos : Nat) : Prop where
  it : wr.heap[k]? = some (.stringIter t pos)
  below : Below w0.heap.size w0 wr
set_option maxRecDepth 100000 in
set_option maxHeartbeats 4000000 in
theorem indexAny_any (s p : ByteArray) (w : World) (ha : Asc (bs s)) (hap : Asc (bs p)) : Calls Tryz.prog 120 #[.string s, .string p] w (IdxPost w s.size) := by
  have HA := Lib.hid ha
  have HP := Lib.hid hap
  clear ha hap
  go_enter Tryz.func120, Tryz.ntmps120
  go_wp2_with fail
  go_loopw [5] (fun _ wr => ∃ pos : Nat, pos ≤ s.size ∧ Hid (Ik w wr w.heap.size s pos)) (fun _ wr => s.size - wr.iterPos w.heap.size)
  case atStart => exact ⟨0, Nat.zero_le _, by have h := World.iter_heap w s 0; exact ⟨by simpa using h, (Below.refl _ _).alloc (Nat.le_refl _) _⟩⟩
  case round =>
    obtain ⟨pos, hpos, HI⟩ := hrel
    have hip : wr.iterPos w.heap.size = pos := by rw [World.iterPos, HI.out.it]
    have HIP := Lib.hid hip
    clear hip
    by_cases hlt : pos < s.size
    · have hca := HA.out (s[pos]'hlt) (by rw [bs_get s pos hlt]; exact List.getElem_mem _)
      have hnx0 := fun ty => Lib.run_next_ascii_at (P := Tryz.prog) wr w.heap.size s pos ty HI.out.it hlt hca
      have HI2 : Hid (Ik w (wr.iterAt w.heap.size s (pos + 1)) w.heap.size s (pos + 1)) := ⟨Lib.iterAt_heap _ _ _ _ _ HI.out.it, iterAt_below HI.out.below (Nat.le_refl _) _ _⟩
      generalize (s[pos]'hlt) = c at hnx0 hca
      generalize (wr.iterAt w.heap.size s (pos + 1)) = W at hnx0 HI2
      have hWs := HI2.out.below.size
      have hWl := (Array.getElem?_eq_some_iff.1 HI2.out.it).1
      go_wp2_with fail
      go_loopw [8] (fun _ w2 => ∃ q : Nat, q ≤ p.size ∧ Hid (w2.heap[W.heap.size]? = some (.stringIter p q)) ∧ Hid (Ik w w2 w.heap.size s (pos + 1))) (fun _ w2 => p.size - w2.iterPos W.heap.size)
      case atStart => exact ⟨0, Nat.zero_le _, by have h := World.iter_heap W p 0; exact h, ⟨by show (W.alloc (.stringIter p 0)).heap[w.heap.size]? = _; rw [heap_alloc_old _ _ hWl]; exact HI2.out.it, HI2.out.below.alloc hWs _⟩⟩
      case round =>
        obtain ⟨q, hq, HQ, HI3⟩ := hrel
        have hip2 : wr.iterPos W.heap.size = q := by rw [World.iterPos, HQ.out]
        have HIP2 := Lib.hid hip2
        clear hip2
        by_cases hlt2 : q < p.size
        · have hcb := HP.out (p[q]'hlt2) (by rw [bs_get p q hlt2]; exact List.getElem_mem _)
          have hnx1 := fun ty => Lib.run_next_ascii_at (P := Tryz.prog) wr W.heap.size p q ty HQ.out hlt2 hcb
          have HQ2 : Hid ((wr.iterAt W.heap.size p (q + 1)).heap[W.heap.size]? = some (.stringIter p (q + 1))) := Lib.iterAt_heap _ _ _ _ _ HQ.out
          have HI4 : Hid (Ik w (wr.iterAt W.heap.size p (q + 1)) w.heap.size s (pos + 1)) := ⟨by rw [Lib.iterAt_other _ _ _ _ _ (by omega)]; exact HI3.out.it, iterAt_below HI3.out.below hWs _ _⟩
          generalize (p[q]'hlt2) = d at hnx1 hcb
          generalize (wr.iterAt W.heap.size p (q + 1)) = W5 at hnx1 HQ2 HI4
          have hip3 : W5.iterPos W.heap.size = q + 1 := by rw [World.iterPos, HQ2.out]
          have HIP3 := Lib.hid hip3
          clear hip3 hnx0
          by_cases hcd : ((c.toNat : Int) == (d.toNat : Int)) = true
          · go_wp2_with fail
            go_ret
            exact ⟨(pos : Int), rfl, .inr ⟨pos, rfl, hlt⟩, HI4.out.below⟩
          · have hcd' : ((c.toNat : Int) == (d.toNat : Int)) = false := by simpa using hcd
            clear hcd
            go_wp2_with fail
            go_roundw
            case rel => exact ⟨q + 1, by omega, HQ2, HI4⟩
            case measure => rw [HIP2.out, HIP3.out]; omega
        · have hnx1 : ∀ ty, (Instr.next (.pointer (some ⟨W.heap.size, 0, none⟩)) true ty).run Tryz.prog wr = _ := fun ty => Lib.run_next_end_at wr W.heap.size p q ty HQ.out hlt2
          have hip4 : wr.iterPos w.heap.size = pos + 1 := by rw [World.iterPos, HI3.out.it]
          have HIP4 := Lib.hid hip4
          clear hnx0 hip4
          go_wp2_with fail
          go_roundw
          case rel => exact ⟨pos + 1, by omega, HI3⟩
          case measure => rw [HIP.out, HIP4.out]; omega
    · have hnx : ∀ ty, (Instr.next (.pointer (some ⟨w.heap.size, 0, none⟩)) true ty).run Tryz.prog wr = _ := fun ty => Lib.run_next_end_at wr w.heap.size s pos ty HI.out.it hlt
      go_wp2_with fail
      go_ret
      exact ⟨-1, rfl, .inl rfl, HI.out.below⟩
section
variable {ops : Array Oper} {o : Oper} {a : Act} {W : World} {K : Act → World → Prop} {Q : Exit → Act → World → Prop} {E : Prop}
/-- append of some strings that lie in a row, in a region that draws its order. -/
theorem step_strs (base : Nat) (hgd : o.guard = none) (sl x : Operand)
    (ho : o.op = .call { callee := .builtin .append, args := #[sl, x], argTypes := #[26, 26] })
    (v : Value) (l ys : List ByteArray) (g c : Nat) (HO : Strs W base v l) (hs : a.eval sl = v) (hx : a.eval x = .slice (some ⟨g, 0, none⟩) ys.length c) (hc : WordsAt W g ys)
    (hbase : base ≤ W.heap.size) (hl : l.length + ys.length ≤ 8796093022207)
    (h : ∀ v1 w1, Strs w1 base v1 (l ++ ys) → W.grownBy w1 v.ownBlock → K (a.put o.dst v1) w1) :
    if Region.wanted o (yielded ops a.tmps) = true then Oper.wp Tryz.prog o a W K Q else E := by
  obtain ⟨i, hi, hz⟩ := Option.map_eq_some_iff.1 info9
  injection hz with z1 z2
  injection z2 with z2 z3
  have hw : Region.wanted o (yielded ops a.tmps) = true := by simp [Region.wanted, hgd]
  rw [if_pos hw]
  obtain ⟨v', w', hr, h2, h3, h4, h5⟩ := run_append_own_at (P := Tryz.prog) W base 26 o.type 9 i (.string (mk [])) 1 16 und26 hi z1 z2 z3 rfl (by omega) v l.length _ HO ⟨g, 0, none⟩ ys.length c (ys.map Value.string) (by simp)
    (fun j u hj => by
      have ha : (⟨g, 0, none⟩ : Addr).add j = ⟨g, j, none⟩ := by
        unfold Addr.add
        split <;> simp_all
      have hj2 : j < ys.length := by
        have := (List.getElem?_eq_some_iff.1 hj).1
        simpa using this
      rw [ha, hc j hj2]
      simp [hj2] at hj
      rw [hj]) (by simp [Value.oneCell']) (by unfold maxLen; omega) (by omega) hbase
  unfold Oper.wp execOp
  simp only [ho, resolve, invoke, builtin, Sem.run_bind, Sem.run_pure, Result.andThen_ok, List.map_toArray, List.map_cons, List.map_nil, hs, hx, hr]
  exact h v' w' (by simpa [Strs] using h2) h3
end
theorem strs_drew {w : World} {base : Nat} {v : Value} {l : List ByteArray} (h : Strs w base v l) : Strs w.drew base v l := World.ownsRow.drew h
theorem two_at (W : World) (x y : ByteArray) : WordsAt (W.alloc (.cells #[.string x, .string y] 9)) W.heap.size [x, y] := by
  intro j hj
  have h := heap_alloc_new W (.cells #[.string x, .string y] 9)
  simp only [World.cell?, h]
  rcases j with _ | _ | j
  all_goals first | rfl | (exfalso; simp at hj; omega)
theorem slice_hi (s : ByteArray) (b : Nat) (h2 : b ≤ s.size) (W : World) : (Instr.slice 9 (.string s) none (some (.int .i64 (b : Int))) none).run Tryz.prog W = .ok (.string (s.extract 0 b)) W := by
  have := run_slice_string_h (P := Tryz.prog) (w := W) (t := 9) (s := s) und9 .i64 (b : Int) (by omega) (by omega)
  simpa using this
theorem slice_lo (s : ByteArray) (a : Nat) (h2 : a ≤ s.size) (A : Int) (hA : A = (a : Int)) (W : World) : (Instr.slice 9 (.string s) (some (.int .i64 A)) none none).run Tryz.prog W = .ok (.string (s.extract a s.size)) W := by
  subst hA
  have := run_slice_string_l (P := Tryz.prog) (w := W) (t := 9) (s := s) und9 .i64 (a : Int) (by omega) (by omega)
  simpa using this
set_option maxRecDepth 100000 in
set_option maxHeartbeats 4000000 in
theorem splitChars_any (s p : ByteArray) (w : World) (hs : s.size ≤ 1048576) (ha : Asc (bs s)) (hap : Asc (bs p)) : Calls Tryz.prog 83 #[.string s, .string p] w (AscsPost w (2 * s.size + 1) s.size) := by
  have HA := Lib.hid ha
  have HP := Lib.hid hap
  clear ha hap
  go_enter Tryz.func83, Tryz.ntmps83
  go_wp2_with fail
  go_loopw [0, 4] (fun r v wr => ∃ (t : ByteArray) (l : List ByteArray), r = .string t ∧ t.size ≤ s.size ∧ l.length + 2 * t.size ≤ 2 * s.size ∧ Hid (Asc (bs t)) ∧ Hid (∀ y ∈ l, AscN y s.size) ∧ Hid (Strs wr w.heap.size v l) ∧ Hid (Below w.heap.size w wr))
    (fun r _ _ => match r with | .string t => t.size | _ => 0)
  case atStart => exact ⟨s, [], rfl, Nat.le_refl _, by simp, HA.out, (by intro y hy; simp at hy), strs_nil _ _, Below.refl _ _⟩
  case round =>
    obtain ⟨t, l, rfl, ht, hl, HT, HZ, HS, HW⟩ := hrel
    have hww := HW.out.size
    go_wp2_with fail
    refine (indexAny_any t p _ HT.out HP.out).mono ?_
    rintro e w1 ⟨k, rfl, hk, b1⟩
    have HS1 := Lib.hid (strs_below HS.out b1)
    have HW1 := Lib.hid (HW.out.trans (b1.mono hww))
    have hw1 := HW1.out.size
    clear b1
    obtain rfl | ⟨i, rfl, hi⟩ := hk
    · go_wp2_with (at_builtin; (refine app_str (w0 := w) w.heap.size rfl _ _ rfl _ l t HS1.out rfl rfl HW1.out hw1 (by omega) ?_); intro v1 w2 hs2 hb2 _; have HS2 := Lib.hid hs2; have HW2 := Lib.hid hb2; clear hs2 hb2)
      go_ret
      exact ⟨_, _, rfl, HS2.out, by simp; omega, (allAsc_snoc HZ.out ⟨HT.out, ht⟩).out, HW2.out⟩
    · have hs0 := fun W => slice_hi t i (by omega) W
      have hs1 := fun W => slice_ss t i (i + 1) (by omega) (by omega) (i : Int) ((i : Int) + 1) rfl (by omega) W
      have hs2 := fun W => slice_lo t (i + 1) (by omega) ((i : Int) + 1) (by omega) W
      have e1 : IntKind.i64.wrap ((i : Int) + 1) = (i : Int) + 1 := IntWalk.i64_in _ (by omega)
      have B1 : Hid (Strs (w1.drew.alloc (.cells #[.string (t.extract 0 i), .string (t.extract i (i + 1))] 9)) w.heap.size _ l) := strs_alloc (strs_drew HS1.out) _
      have B2 := Lib.hid (two_at w1.drew (t.extract 0 i) (t.extract i (i + 1)))
      go_upto_region 3 with fail
      go_region_law ((refine step_strs (base := w.heap.size) rfl (.tmp 11) (.tmp 20) rfl _ l [t.extract 0 i, t.extract i (i + 1)] w1.heap.size 2 B1.out (by first | (simp [Act.eval]; done) | simp [Act.eval, Act.put]) (by first | (simp [Act.eval]; done) | simp [Act.eval, Act.put]) B2.out (by simp; omega) (by simp; omega) ?_; intro v2 w2 hs3 hg3))
      have HS3 := Lib.hid hs3
      have hB1 : Below w.heap.size w (w1.drew.alloc (.cells #[.string (t.extract 0 i), .string (t.extract i (i + 1))] 9)) := HW1.out.drew.alloc (by simp; omega) _
      have HW3 : Hid (Below w.heap.size w w2) := hB1.trans ⟨hg3.os, hg3.tape, hg3.output, hg3.size, fun k hk => hg3.block k (Nat.lt_of_lt_of_le hk hB1.size) (fun e => by have := (World.ownsRow.lt B1.out k e.symm).1; omega)⟩
      have HZ3 : Hid (∀ y ∈ l ++ [t.extract 0 i, t.extract i (i + 1)], AscN y s.size) := by
        intro y hy
        rw [List.mem_append] at hy
        rcases hy with hy | hy
        · exact HZ.out y hy
        · simp only [List.mem_cons, List.mem_nil_iff, or_false] at hy
          rcases hy with rfl | rfl
          · exact ⟨asc_ext HT.out _ _, by simp; omega⟩
          · exact ⟨asc_ext HT.out _ _, by simp; omega⟩
      clear hs3 hg3 hB1
      go_wp2_with fail
      go_roundw
      case rel => exact ⟨_, _, rfl, by simp; omega, by simp; omega, asc_ext HT.out _ _, HZ3, HS3, HW3⟩
      case measure => simp; omega
end Go.Proofs.YtoofphhfealcaaaGreatDoor

namespace Go.Proofs.YtoofphhfealcaaaGreatDoor
open Go.RowKit

theorem info157 : (Tryz.prog.info? 157).map (fun i => (i.zero, i.size, i.bytes)) = some (some (.slice none 0 0), 1, 24) := by kernel_rfl
theorem und196 : Tryz.prog.underlying 196 = some (.slice 157) := by kernel_rfl
theorem info3 : (Tryz.prog.info? 3).map (fun i => (i.zero, i.size, i.bytes)) = some (some (.int .i64 0), 1, 8) := by kernel_rfl
theorem und157 : Tryz.prog.underlying 157 = some (.slice 3) := by kernel_rfl
/-- Pairs of numbers, of which the first ones are known: their blocks, these numbers. -/
structure Prs (w : World) (base n : Nat) (v : Value) (l : List (Nat × Nat)) : Prop where
  own : w.ownsRow base 157 1 v l.length (l.map fun x => .slice (some ⟨x.1, 0, none⟩) 2 2)
  pts : ∀ x ∈ l, base ≤ x.1 ∧ ∃ y, w.heap[x.1]? = some (.cells #[.int .i64 (x.2 : Nat), y] 3) ∧ x.2 < n
theorem prs_nil (w : World) (base n : Nat) : Prs w base n (.slice none 0 0) [] := ⟨World.ownsRow_nil _ _ _ _, fun x hx => by simp at hx⟩
theorem prs_below {w w1 : World} {base n : Nat} {v : Value} {l : List (Nat × Nat)} (h : Prs w base n v l) (hb : Below w.heap.size w w1) : Prs w1 base n v l :=
  ⟨row_below h.own hb, fun x hx => by
    obtain ⟨h0, y, h1, h2⟩ := h.pts x hx
    exact ⟨h0, y, by rw [hb.block _ (Array.getElem?_eq_some_iff.1 h1).1]; exact h1, h2⟩⟩
section
variable {ops : Array Oper} {rest : List Oper} {o : Oper} {a : Act} {Q : Exit → Act → World → Prop}
/-- append of one pair. -/
theorem app_pair {w0 W : World} (base n : Nat) (hgd : o.guard = none) (s x : Operand)
    (ho : o.op = .call { callee := .builtin .append, args := #[s, x], argTypes := #[196, 196] })
    (v : Value) (l : List (Nat × Nat)) (g k : Nat) (y : Value) (HO : Prs W base n v l) (hp : W.heap[g]? = some (.cells #[.int .i64 (k : Nat), y] 3)) (hk : k < n) (hgb : base ≤ g) (H : Nat) (hH : W.heap.size = H) (hs : a.eval s = v) (hx : a.eval x = .slice (some ⟨H, 0, none⟩) 1 1)
    (HB : Below base w0 W) (hbase : base ≤ W.heap.size) (hl : l.length ≤ 1099511627776)
    (h : ∀ v1 w1, Prs w1 base n v1 (l ++ [(g, k)]) → Below base w0 w1 → wpList Tryz.prog ops Q rest (a.put o.dst v1) w1) :
    wpList Tryz.prog ops Q (o :: rest) a (W.alloc (.cells #[.slice (some ⟨g, 0, none⟩) 2 2] 157)) :=
  app1 base hgd s x 196 157 (.slice none 0 0) 1 24 ho und196 info157 rfl (by omega) (by omega) v l.length _ #[.slice (some ⟨g, 0, none⟩) 2 2] hs (by rw [hH]; exact hx) rfl (by simp [Value.oneCell']) HO.own HB hbase (by omega)
    fun v1 w1 hown hB1 hg => h v1 w1 ⟨by simpa using hown, fun x hx => by
      have keep : ∀ (b : Nat) (c : Array Value), W.heap[b]? = some (Obj.cells c 3) → w1.heap[b]? = some (Obj.cells c 3) := fun b c hb => by
        rw [hg.block b (Array.getElem?_eq_some_iff.1 hb).1 (fun e => ?_)]
        · exact hb
        · have := own_row_type HO.own b c 3 _ e.symm hb
          cases this
      rw [List.mem_append, List.mem_singleton] at hx
      rcases hx with hx | rfl
      · obtain ⟨h0, y, h1, h2⟩ := HO.pts x hx
        exact ⟨h0, y, keep _ _ h1, h2⟩
      · exact ⟨hgb, y, keep _ _ hp, hk⟩⟩ hB1
end
/-- Pairs that begin within the text. -/
def PrsPost (w : World) (n : Nat) (e : Ending) (w' : World) : Prop := ∃ A c l, e = .returned (.slice A (List.length l) c) ∧ Prs w' w.heap.size n (.slice A l.length c) l ∧ l.length ≤ n ∧ Below w.heap.size w w'
theorem prs_len {w : World} {base n : Nat} {v : Value} {l : List (Nat × Nat)} (h : Prs w base n v l) : ∃ A c, v = .slice A l.length c := by
  obtain ⟨p, c, e⟩ := row_slice h.own
  exact ⟨p, c, e⟩
set_option maxRecDepth 100000 in
set_option maxHeartbeats 8000000 in
theorem zzPairs_any (s : ByteArray) (first : Bool) (w : World) (hs : s.size ≤ 1048576) (ha : Asc (bs s)) : Calls Tryz.prog 121 #[.string s, .bool first] w (PrsPost w s.size) := by
  have HA := Lib.hid ha
  clear ha
  go_enter Tryz.func121, Tryz.ntmps121
  go_wp2_with fail
  go_loopw [5, 6] (fun v i wr => ∃ (k : Nat) (l : List (Nat × Nat)), i = .int .i64 k ∧ k ≤ s.size ∧ l.length ≤ k ∧ Hid (Prs wr w.heap.size s.size v l) ∧ Hid (Below w.heap.size w wr))
    (fun _ i _ => s.size - (intOf i).toNat)
  case atStart => exact ⟨0, [], rfl, Nat.zero_le _, Nat.le_refl _, prs_nil _ _ _, Below.refl _ _⟩
  case round =>
    obtain ⟨k, l, rfl, hk, hl, HB, HW⟩ := hrel
    have hww := HW.out.size
    by_cases hlt : k < s.size
    · have HK : Hid ((s[k]'hlt).toNat < 128) := HA.out _ (by rw [bs_get s k hlt]; exact List.getElem_mem _)
      cases hd : isDig (s[k]'hlt) <;> have HD := Lib.hid hd <;> clear hd <;> cases first
      · by_cases h2 : k + 1 < s.size
        · have HK2 : Hid ((s[k + 1]'h2).toNat < 128) := HA.out _ (by rw [bs_get s (k + 1) h2]; exact List.getElem_mem _)
          cases hd2 : isDig (s[k + 1]'h2) <;> have HD2 := Lib.hid hd2 <;> clear hd2
          · go_wp2_with (first
              | (go_at_call 117; ((with_reducible refine (decode_any s k hlt HK.out _).mono ?_); rintro e w' ⟨rfl, rfl⟩))
              | (go_at_call 97; refine (zzDigit_any _ _).mono ?_; rintro e w' ⟨rfl, rfl⟩; (first | rw [HD.out] | rw [HD2.out])))
            go_roundw
            case rel => exact ⟨k + 1, l, by first | rfl | go_num, by omega, by omega, HB, HW⟩
            case measure => simp [intOf]; omega
          · have e1 : IntKind.i64.wrap ((k : Int) + 1 + 1) = (k : Int) + 1 + 1 := IntWalk.i64_in _ (by omega)
            have HB1 : Hid (Prs (wr.alloc (.cells #[.int .i64 (k : Nat), .int .i64 ((k : Int) + 1 + 1)] 3)) w.heap.size s.size _ l) := prs_below HB.out ((Below.refl _ _).alloc (Nat.le_refl _) _)
            have HP1 : Hid ((wr.alloc (.cells #[.int .i64 (k : Nat), .int .i64 ((k : Int) + 1 + 1)] 3)).heap[wr.heap.size]? = some (.cells #[.int .i64 (k : Nat), .int .i64 ((k : Int) + 1 + 1)] 3)) := heap_alloc_new wr _
            have HW1 : Hid (Below w.heap.size w (wr.alloc (.cells #[.int .i64 (k : Nat), .int .i64 ((k : Int) + 1 + 1)] 3))) := HW.out.alloc hww _
            have hw1 : w.heap.size ≤ (wr.alloc (.cells #[.int .i64 (k : Nat), .int .i64 ((k : Int) + 1 + 1)] 3)).heap.size := HW1.out.size
            go_wp2_with (first
              | (go_at_call 117; ((with_reducible refine (decode_any s k hlt HK.out _).mono ?_); rintro e w' ⟨rfl, rfl⟩))
              | (go_at_call 97; refine (zzDigit_any _ _).mono ?_; rintro e w' ⟨rfl, rfl⟩; (first | rw [HD.out] | rw [HD2.out]))
              | (go_at_call 117; ((with_reducible refine (decode_any s (k + 1) h2 HK2.out _).mono ?_); rintro e w' ⟨rfl, rfl⟩))
              | (at_builtin; (refine app_pair (w0 := w) (W := wr.alloc (.cells #[.int .i64 (k : Nat), .int .i64 ((k : Int) + 1 + 1)] 3)) w.heap.size s.size rfl _ _ rfl _ l wr.heap.size k _ HB1.out HP1.out hlt hww (wr.heap.size + 1) (by simp) rfl rfl HW1.out hw1 (by omega) ?_); intro v1 w1 hp1 hb1; have HP2 := Lib.hid hp1; have HW2 := Lib.hid hb1; clear hp1 hb1))
            go_roundw
            case rel => exact ⟨k + 2, _, by go_num, by omega, by simp; omega, HP2, HW2⟩
            case measure => simp [intOf]; omega
        · go_wp2_with (first
            | (go_at_call 117; ((with_reducible refine (decode_any s k hlt HK.out _).mono ?_); rintro e w' ⟨rfl, rfl⟩))
            | (go_at_call 97; refine (zzDigit_any _ _).mono ?_; rintro e w' ⟨rfl, rfl⟩; rw [HD.out]))
          go_roundw
          case rel => exact ⟨k + 1, l, by first | rfl | go_num, by omega, by omega, HB, HW⟩
          case measure => simp [intOf]; omega
      · go_wp2_with (first
          | (go_at_call 117; ((with_reducible refine (decode_any s k hlt HK.out _).mono ?_); rintro e w' ⟨rfl, rfl⟩))
          | (go_at_call 97; refine (zzDigit_any _ _).mono ?_; rintro e w' ⟨rfl, rfl⟩; rw [HD.out]))
        go_roundw
        case rel => exact ⟨k + 1, l, by first | rfl | go_num, by omega, by omega, HB, HW⟩
        case measure => simp [intOf]; omega
      · go_wp2_with (first
          | (go_at_call 117; ((with_reducible refine (decode_any s k hlt HK.out _).mono ?_); rintro e w' ⟨rfl, rfl⟩))
          | (go_at_call 97; refine (zzDigit_any _ _).mono ?_; rintro e w' ⟨rfl, rfl⟩; rw [HD.out]))
        go_roundw
        case rel => exact ⟨k + 1, l, by first | rfl | go_num, by omega, by omega, HB, HW⟩
        case measure => simp [intOf]; omega
      · by_cases h2 : k + 1 < s.size
        · have HK2 : Hid ((s[k + 1]'h2).toNat < 128) := HA.out _ (by rw [bs_get s (k + 1) h2]; exact List.getElem_mem _)
          cases hd2 : isDig (s[k + 1]'h2) <;> have HD2 := Lib.hid hd2 <;> clear hd2
          · have e1 : IntKind.i64.wrap ((k : Int) + 1 + 1) = (k : Int) + 1 + 1 := IntWalk.i64_in _ (by omega)
            have HB1 : Hid (Prs (wr.alloc (.cells #[.int .i64 (k : Nat), .int .i64 ((k : Int) + 1 + 1)] 3)) w.heap.size s.size _ l) := prs_below HB.out ((Below.refl _ _).alloc (Nat.le_refl _) _)
            have HP1 : Hid ((wr.alloc (.cells #[.int .i64 (k : Nat), .int .i64 ((k : Int) + 1 + 1)] 3)).heap[wr.heap.size]? = some (.cells #[.int .i64 (k : Nat), .int .i64 ((k : Int) + 1 + 1)] 3)) := heap_alloc_new wr _
            have HW1 : Hid (Below w.heap.size w (wr.alloc (.cells #[.int .i64 (k : Nat), .int .i64 ((k : Int) + 1 + 1)] 3))) := HW.out.alloc hww _
            have hw1 : w.heap.size ≤ (wr.alloc (.cells #[.int .i64 (k : Nat), .int .i64 ((k : Int) + 1 + 1)] 3)).heap.size := HW1.out.size
            go_wp2_with (first
              | (go_at_call 117; ((with_reducible refine (decode_any s k hlt HK.out _).mono ?_); rintro e w' ⟨rfl, rfl⟩))
              | (go_at_call 97; refine (zzDigit_any _ _).mono ?_; rintro e w' ⟨rfl, rfl⟩; (first | rw [HD.out] | rw [HD2.out]))
              | (go_at_call 117; ((with_reducible refine (decode_any s (k + 1) h2 HK2.out _).mono ?_); rintro e w' ⟨rfl, rfl⟩))
              | (at_builtin; (refine app_pair (w0 := w) (W := wr.alloc (.cells #[.int .i64 (k : Nat), .int .i64 ((k : Int) + 1 + 1)] 3)) w.heap.size s.size rfl _ _ rfl _ l wr.heap.size k _ HB1.out HP1.out hlt hww (wr.heap.size + 1) (by simp) rfl rfl HW1.out hw1 (by omega) ?_); intro v1 w1 hp1 hb1; have HP2 := Lib.hid hp1; have HW2 := Lib.hid hb1; clear hp1 hb1))
            go_roundw
            case rel => exact ⟨k + 2, _, by go_num, by omega, by simp; omega, HP2, HW2⟩
            case measure => simp [intOf]; omega
          · go_wp2_with (first
              | (go_at_call 117; ((with_reducible refine (decode_any s k hlt HK.out _).mono ?_); rintro e w' ⟨rfl, rfl⟩))
              | (go_at_call 97; refine (zzDigit_any _ _).mono ?_; rintro e w' ⟨rfl, rfl⟩; (first | rw [HD.out] | rw [HD2.out])))
            go_roundw
            case rel => exact ⟨k + 1, l, by first | rfl | go_num, by omega, by omega, HB, HW⟩
            case measure => simp [intOf]; omega
        · go_wp2_with (first
            | (go_at_call 117; ((with_reducible refine (decode_any s k hlt HK.out _).mono ?_); rintro e w' ⟨rfl, rfl⟩))
            | (go_at_call 97; refine (zzDigit_any _ _).mono ?_; rintro e w' ⟨rfl, rfl⟩; rw [HD.out]))
          go_roundw
          case rel => exact ⟨k + 1, l, by first | rfl | go_num, by omega, by omega, HB, HW⟩
          case measure => simp [intOf]; omega
    · obtain ⟨A, c, rfl⟩ := prs_len HB.out
      go_wp2_with fail
      go_ret
      exact ⟨A, c, l, rfl, HB.out, by omega, HW.out⟩

end Go.Proofs.YtoofphhfealcaaaGreatDoor

namespace Go.Proofs.YtoofphhfealcaaaGreatDoor
open Go.RowKit

/-- Numbers of the call's own, behind a slice. -/
def Ins (w : World) (base : Nat) (v : Value) (zs : List Int) : Prop := w.ownsRow base 3 1 v zs.length (zs.map (Value.int .i64))
/-- The numbers, sorted. -/
def srt (zs : List Int) : List Int := zs.mergeSort fun x y => decide (x ≤ y)
theorem srt_len (zs : List Int) : (srt zs).length = zs.length := List.length_mergeSort _
theorem srt_mem (zs : List Int) (x : Int) : x ∈ srt zs ↔ x ∈ zs := List.mem_mergeSort
theorem srt_sorted (zs : List Int) : (srt zs).Pairwise (· ≤ ·) := by
  have h := List.pairwise_mergeSort (le := fun x y : Int => decide (x ≤ y)) (by intro a b c; simp; omega) (by intro a b; simp; omega) zs
  exact h.imp (fun h => by simpa using h)
theorem bits_Len0 (w : World) : Calls Tryz.prog 158 #[.int .u64 0] w fun e w' => e = .returned (.int .i64 0) ∧ w = w' := by
  refine (Tryz.bits_Len 0 w (by omega) (by omega)).mono ?_
  rintro e w' ⟨rfl, rfl⟩
  exact ⟨rfl, rfl⟩
set_option maxRecDepth 100000 in
set_option maxHeartbeats 2000000 in
theorem insSort_nil (w : World) : Calls Tryz.prog 176 #[.slice none 0 0, .int .i64 0, .int .i64 0] w fun e w' => e = .returned (.tuple #[]) ∧ w = w' := by
  go_enter Tryz.func176, Tryz.ntmps176
  go_wp2_with fail
  refine wp_loop_rounds 1 ?_
  rw [rounds_succ]
  go_wp2_with fail
  go_end0
  exact ⟨rfl, rfl⟩
set_option maxRecDepth 100000 in
set_option maxHeartbeats 2000000 in
theorem pdq_nil (w : World) : Calls Tryz.prog 157 #[.slice none 0 0, .int .i64 0, .int .i64 0, .int .i64 0] w fun e w' => e = .returned (.tuple #[]) ∧ w = w' := by
  go_enter Tryz.func157, Tryz.ntmps157
  go_wp2_with fail
  refine wp_loop_rounds 1 ?_
  rw [rounds_succ]
  go_wp2_with (go_at_call 176; refine (insSort_nil _).mono ?_; rintro e w' ⟨rfl, rfl⟩)
  refine bodyPost_ret (results_none rfl _ _ _) rfl ?_
  exact ⟨rfl, rfl⟩
theorem sliceSort_nil (w : World) : Calls Tryz.prog 142 #[.slice none 0 0] w fun e w' => e = .returned (.tuple #[]) ∧ w = w' := by
  go_enter Tryz.func142, Tryz.ntmps142
  go_wp2_with (first
    | (go_at_call 158; refine (bits_Len0 _).mono ?_; rintro e w' ⟨rfl, rfl⟩)
    | (go_at_call 157; refine (pdq_nil _).mono ?_; rintro e w' ⟨rfl, rfl⟩))
  go_end0
  exact ⟨rfl, rfl⟩
theorem sort_nil (w : World) : Calls Tryz.prog 122 #[.slice none 0 0] w fun e w' => e = .returned (.tuple #[]) ∧ w = w' := by
  go_enter Tryz.func122, Tryz.ntmps122
  go_wp2_with (go_at_call 142; refine (sliceSort_nil _).mono ?_; rintro e w' ⟨rfl, rfl⟩)
  go_end0
  exact ⟨rfl, rfl⟩
theorem sortInts_any (base : Nat) (v : Value) (zs : List Int) (w : World) (hO : Ins w base v zs) (hl : zs.length < 4611686018427387904) :
    Calls Tryz.prog 122 #[v] w fun e w' => e = .returned (.tuple #[]) ∧ Ins w' base v (srt zs) ∧ w.grownBy w' v.ownBlock := by
  rcases hO.2 with ⟨rfl, h0⟩ | ⟨g, cap, cur, rfl, hb, hh, h1, h2, h3, h4⟩
  · have hz : zs = [] := List.eq_nil_of_length_eq_zero h0
    subst hz
    refine (sort_nil w).mono ?_
    rintro e w' ⟨rfl, rfl⟩
    exact ⟨rfl, by simpa [srt] using hO, grown_refl _ _⟩
  · rw [Nat.mul_one] at h4
    refine (Tryz.sort_Ints g 0 cap zs w (holds_of_blockI hh h4) (Array.getElem?_eq_some_iff.1 hh).1 hl).mono ?_
    rintro e w' ⟨rfl, n, os, rfl⟩
    refine ⟨rfl, ?_, Go.grownBy_sortedI _⟩
    have := ownsRow_sortedI (n := n) (os := os) (srt_len zs) hb hh h1 h2 h3
    unfold Ins
    rw [srt_len]
    exact this
/-- Pairs that are read: their row g, the blocks of these all from b2 on and below b3. -/
structure Sp (w : World) (b2 b3 n g : Nat) (l : List (Nat × Nat)) : Prop where
  row : ∀ k (h : k < l.length), w.cell? ⟨g, k, none⟩ = some (.slice (some ⟨l[k].1, 0, none⟩) 2 2)
  pt : ∀ x ∈ l, w.cell? ⟨x.1, 0, none⟩ = some (.int .i64 (x.2 : Nat)) ∧ x.2 < n
  rng : (b2 ≤ g ∧ g < b3) ∧ ∀ x ∈ l, b2 ≤ x.1 ∧ x.1 < b3
theorem sp_grown {w w1 : World} {b2 b3 n g : Nat} {l : List (Nat × Nat)} (h : Sp w b2 b3 n g l) {r : Option Nat} (hg : w.grownBy w1 r) (hb : b3 ≤ w.heap.size) (hr : ∀ b, r = some b → b < b2 ∨ b3 ≤ b) : Sp w1 b2 b3 n g l := by
  have keep : ∀ b o, b2 ≤ b → b < b3 → w1.cell? ⟨b, o, none⟩ = w.cell? ⟨b, o, none⟩ := fun b o h1 h2 => by
    simp only [World.cell?]
    rw [hg.block b (by omega) (fun e => by have := hr b e.symm; omega)]
  exact ⟨fun k hk => by rw [keep g k h.rng.1.1 h.rng.1.2]; exact h.row k hk, fun x hx => by
    obtain ⟨h1, h2⟩ := h.rng.2 x hx
    rw [keep x.1 0 h1 h2]
    exact h.pt x hx, h.rng⟩
theorem sp_of {w : World} {b2 n c : Nat} {A : Option Addr} {l : List (Nat × Nat)} (h : Prs w b2 n (.slice A l.length c) l) (h0 : 0 < l.length) : ∃ g, A = some ⟨g, 0, none⟩ ∧ Sp w b2 w.heap.size n g l := by
  rcases h.own.2 with ⟨h1, h2⟩ | ⟨g, cap, cur, h1, hb, hh, _⟩
  · omega
  · injection h1 with h1 h2 h3
    subst h1
    refine ⟨g, rfl, ⟨fun k hk => ?_, fun x hx => ?_, ⟨hb, (Array.getElem?_eq_some_iff.1 hh).1⟩, fun x hx => ?_⟩⟩
    · rw [World.ownsRow.cellAt h.own k (by simpa using hk)]
      simp [hk]
    · obtain ⟨_, y, h4, h5⟩ := h.pts x hx
      exact ⟨by simp [World.cell?, h4], h5⟩
    · obtain ⟨h6, y, h4, h5⟩ := h.pts x hx
      exact ⟨h6, (Array.getElem?_eq_some_iff.1 h4).1⟩
section
variable {ops : Array Oper} {rest : List Oper} {o : Oper} {a : Act} {Q : Exit → Act → World → Prop}
/-- append of one number. -/
theorem app_int {W : World} (base : Nat) (hgd : o.guard = none) (s x : Operand)
    (ho : o.op = .call { callee := .builtin .append, args := #[s, x], argTypes := #[157, 157] })
    (v : Value) (zs : List Int) (z : Int) (HO : Ins W base v zs) (hs : a.eval s = v) (hx : a.eval x = .slice (some ⟨W.heap.size, 0, none⟩) 1 1)
    (hbase : base ≤ W.heap.size) (hl : zs.length ≤ 1099511627776)
    (h : ∀ v1 w1, Ins w1 base v1 (zs ++ [z]) → W.grownBy w1 v.ownBlock → (v1.ownBlock = v.ownBlock ∨ v1.ownBlock = some (W.heap.size + 1)) → wpList Tryz.prog ops Q rest (a.put o.dst v1) w1) :
    wpList Tryz.prog ops Q (o :: rest) a (W.alloc (.cells #[.int .i64 z] 3)) := by
  obtain ⟨i0, hi, hzz⟩ := Option.map_eq_some_iff.1 info3
  simp only [Prod.mk.injEq] at hzz
  obtain ⟨hz0, hz1, hz2⟩ := hzz
  refine wpList_append_own_at (W.alloc (.cells #[.int .i64 z] 3)) hgd s x 157 ho base 3 i0 (.int .i64 0) 1 8 und157 hi hz0 hz1 hz2 rfl (by omega) v zs.length _ hs (World.ownsRow.alloc HO _) ⟨W.heap.size, 0, none⟩ 1 1 [.int .i64 z] hx rfl
    (cell_one_new _ _ _) (by simp [Value.oneCell']) (by simp only [maxLen]; omega) (by omega) (by simp; omega) ?_
  intro v1 w1 hown hg _ hv
  rw [World.size_alloc] at hv
  exact h v1 w1 (by simpa [Ins] using hown) (World.grownBy.trans (World.grownBy_alloc W _ _) hg) hv
end
theorem ins_len {w : World} {base : Nat} {v : Value} {zs : List Int} (h : Ins w base v zs) : ∃ A c, v = .slice A zs.length c := by
  obtain ⟨p, c, e⟩ := row_slice h
  exact ⟨p, c, e⟩
/-- Sorted places in a text of n bytes. -/
def TrPost (w : World) (n : Nat) (e : Ending) (w' : World) : Prop := ∃ A c zs, e = .returned (.slice A (List.length zs) c) ∧ Ins w' w.heap.size (.slice A zs.length c) zs ∧ (∀ z ∈ zs, 0 ≤ z ∧ z ≤ n) ∧ zs.Pairwise (· ≤ ·) ∧ zs.length ≤ 2 * n ∧ Below w.heap.size w w'
/-- What the loops over the pairs have in hand. -/
structure Tk (w0 wr : World) (b2 b3 n : Nat) (v : Value) (zs : List Int) : Prop where
  ints : Ins wr w0.heap.size v zs
  far : ∀ g, v.ownBlock = some g → g < b2 ∨ b3 ≤ g
  rng : ∀ z ∈ zs, 0 ≤ z ∧ z ≤ (n : Int)
  below : Below w0.heap.size w0 wr
  sz : b3 ≤ wr.heap.size ∧ w0.heap.size ≤ b3
theorem tk_app {w0 wr w1 : World} {b2 b3 n : Nat} {v v1 : Value} {zs : List Int} {z : Int} (h : Tk w0 wr b2 b3 n v zs) (hi : Ins w1 w0.heap.size v1 (zs ++ [z])) (hg : wr.grownBy w1 v.ownBlock) (hv : v1.ownBlock = v.ownBlock ∨ v1.ownBlock = some (wr.heap.size + 1)) (hz : 0 ≤ z ∧ z ≤ (n : Int)) : Tk w0 w1 b2 b3 n v1 (zs ++ [z]) := by
  refine ⟨hi, fun g hg2 => ?_, fun y hy => ?_, ?_, ⟨Nat.le_trans h.sz.1 hg.size, h.sz.2⟩⟩
  · rcases hv with e | e
    · exact h.far g (by rw [← e]; exact hg2)
    · rw [e] at hg2
      injection hg2 with hg2
      have := h.sz.1
      omega
  · rw [List.mem_append, List.mem_singleton] at hy
    rcases hy with hy | rfl
    · exact h.rng y hy
    · exact hz
  · exact h.below.trans ⟨hg.os, hg.tape, hg.output, hg.size, fun k hk => hg.block k (Nat.lt_of_lt_of_le hk h.below.size) (fun e => by have := (World.ownsRow.lt h.ints k e.symm).1; omega)⟩
/-- The pairs behind a slice, if there are any. -/
def SpO (w : World) (b2 b3 n : Nat) (A : Option Addr) (l : List (Nat × Nat)) : Prop := 0 < l.length → ∃ g, A = some ⟨g, 0, none⟩ ∧ Sp w b2 b3 n g l
theorem spo_of {w : World} {b2 n c : Nat} {A : Option Addr} {l : List (Nat × Nat)} (h : Prs w b2 n (.slice A l.length c) l) : SpO w b2 w.heap.size n A l := fun h0 => sp_of h h0
theorem spo_grown {w w1 : World} {b2 b3 n : Nat} {A : Option Addr} {l : List (Nat × Nat)} (h : SpO w b2 b3 n A l) {r : Option Nat} (hg : w.grownBy w1 r) (hb : b3 ≤ w.heap.size) (hr : ∀ b, r = some b → b < b2 ∨ b3 ≤ b) : SpO w1 b2 b3 n A l := fun h0 => by
  obtain ⟨g, rfl, h1⟩ := h h0
  exact ⟨g, rfl, sp_grown h1 hg hb hr⟩
theorem tk_below {w0 wr w1 : World} {b2 b3 n : Nat} {v : Value} {zs : List Int} (h : Tk w0 wr b2 b3 n v zs) (hb : Below wr.heap.size wr w1) (h1 : w0.heap.size ≤ wr.heap.size) : Tk w0 w1 wr.heap.size w1.heap.size n v zs :=
  ⟨row_below h.ints hb, fun g hg => .inl (World.ownsRow.lt h.ints g hg).2, h.rng, h.below.trans (hb.mono h1), ⟨Nat.le_refl _, Nat.le_trans h1 hb.size⟩⟩
theorem tk_old {w0 wr : World} {b2 b3 n : Nat} {v : Value} {zs : List Int} (h : Tk w0 wr b2 b3 n v zs)   : Tk w0 wr wr.heap.size wr.heap.size n v zs :=
  ⟨h.ints, fun g hg => .inl (World.ownsRow.lt h.ints g hg).2, h.rng, h.below, ⟨Nat.le_refl _, h.below.size⟩⟩
theorem tr_end {w0 wr w1 : World} {b2 b3 n c : Nat} {A : Option Addr} {zs : List Int} (h : Tk w0 wr b2 b3 n (.slice A zs.length c) zs) (hi : Ins w1 w0.heap.size (.slice A zs.length c) (srt zs)) (hg : wr.grownBy w1 (Value.slice A zs.length c).ownBlock) (hl : zs.length ≤ 2 * n) : TrPost w0 n (.returned (.slice A zs.length c)) w1 := by
  refine ⟨A, c, srt zs, by rw [srt_len], by rw [srt_len]; exact hi, fun z hz => h.rng z ((srt_mem _ _).1 hz), srt_sorted zs, by rw [srt_len]; exact hl, ?_⟩
  exact h.below.trans ⟨hg.os, hg.tape, hg.output, hg.size, fun k hk => hg.block k (Nat.lt_of_lt_of_le hk h.below.size) (fun e => by have := (World.ownsRow.lt h.ints k e.symm).1; omega)⟩
set_option maxRecDepth 100000 in
set_option maxHeartbeats 4000000 in
theorem findTr_any (s : ByteArray) (w : World) (hs : s.size ≤ 1048576) (ha : Asc (bs s)) : Calls Tryz.prog 84 #[.string s] w (TrPost w s.size) := by
  have HA := Lib.hid ha
  clear ha
  go_enter Tryz.func84, Tryz.ntmps84
  go_wp2_with (go_at_call 121; (refine (zzPairs_any s false w hs HA.out).mono ?_); rintro e w1 ⟨A, c, l, rfl, hp, hl, hb⟩; have HSp := Lib.hid (spo_of hp); have HB := Lib.hid hb; have hw1 := hb.size; clear hp hb)
  go_loopw [2, 10] (fun v i wr => ∃ (k : Nat) (zs : List Int), i = .int .i64 k ∧ k ≤ l.length ∧ zs.length = k ∧ Hid (SpO wr w.heap.size w1.heap.size s.size A l) ∧ Hid (Tk w wr w.heap.size w1.heap.size s.size v zs))
    (fun _ i _ => l.length - (intOf i).toNat)
  case atStart => exact ⟨0, [], rfl, Nat.zero_le _, rfl, HSp, ⟨World.ownsRow_nil _ _ _ _, (by intro g hg; simp [Value.ownBlock] at hg), (by intro z hz; simp at hz), HB.out, ⟨Nat.le_refl _, hw1⟩⟩⟩
  case round =>
    obtain ⟨k, zs, rfl, hk, hz, HS, HT⟩ := hrel
    have hsz := HT.out.sz
    by_cases hlt : k < l.length
    · obtain ⟨g, rfl, hS⟩ := HS.out (by omega)
      obtain ⟨cp, hpn⟩ := hS.pt _ (List.getElem_mem hlt)
      have hck := hS.row k hlt
      have e1 : IntKind.i64.wrap (((l[k].2 : Nat) : Int) + 1) = ((l[k].2 : Nat) : Int) + 1 := IntWalk.i64_in _ (by omega)
      clear hS
      go_wp2_with (at_builtin; (refine app_int (W := wr) w.heap.size rfl _ _ rfl _ zs (((l[k].2 : Nat) : Int) + 1) HT.out.ints rfl rfl (by omega) (by omega) ?_); intro v1 w2 hi2 hg2 hv2; have HT2 := Lib.hid (tk_app HT.out hi2 hg2 hv2 (by omega)); have HS2 := Lib.hid (spo_grown HS.out hg2 hsz.1 HT.out.far); clear hi2 hg2 hv2)
      go_roundw
      case rel => exact ⟨k + 1, _, by first | rfl | go_num, by omega, by simp; omega, HS2, HT2⟩
      case measure => simp [intOf]; omega
    · have HT0 := Lib.hid (tk_old HT.out)
      clear HS HT
      go_wp2_with (go_at_call 121; (refine (zzPairs_any s true wr hs HA.out).mono ?_); rintro e w2 ⟨A2, c2, l2, rfl, hp, hl2, hb⟩; have HSp2 := Lib.hid (spo_of hp); have HT2 := Lib.hid (tk_below HT0.out hb (by omega)); have hw2 := hb.size; clear hp hb)
      go_loopw [2, 25] (fun v i wr2 => ∃ (k2 : Nat) (zs2 : List Int), i = .int .i64 k2 ∧ k2 ≤ l2.length ∧ zs2.length = zs.length + k2 ∧ Hid (SpO wr2 wr.heap.size w2.heap.size s.size A2 l2) ∧ Hid (Tk w wr2 wr.heap.size w2.heap.size s.size v zs2))
        (fun _ i _ => l2.length - (intOf i).toNat)
      case atStart => exact ⟨0, zs, rfl, Nat.zero_le _, rfl, HSp2, HT2⟩
      case round =>
        obtain ⟨k2, zs2, rfl, hk2, hz2, HS3, HT3⟩ := hrel
        have hsz3 := HT3.out.sz
        by_cases hlt2 : k2 < l2.length
        · obtain ⟨g2, rfl, hS⟩ := HS3.out (by omega)
          obtain ⟨cp, hpn⟩ := hS.pt _ (List.getElem_mem hlt2)
          have hck := hS.row k2 hlt2
          have e1 : IntKind.i64.wrap (((l2[k2].2 : Nat) : Int) + 1) = ((l2[k2].2 : Nat) : Int) + 1 := IntWalk.i64_in _ (by omega)
          clear hS
          go_wp2_with (at_builtin; (refine app_int w.heap.size rfl _ _ rfl _ zs2 (((l2[k2].2 : Nat) : Int) + 1) HT3.out.ints rfl rfl (by omega) (by omega) ?_); intro v1 w4 hi2 hg2 hv2; have HT4 := Lib.hid (tk_app HT3.out hi2 hg2 hv2 (by omega)); have HS4 := Lib.hid (spo_grown HS3.out hg2 hsz3.1 HT3.out.far); clear hi2 hg2 hv2)
          go_roundw
          case rel => exact ⟨k2 + 1, _, by first | rfl | go_num, by omega, by simp; omega, HS4, HT4⟩
          case measure => simp [intOf]; omega
        · obtain ⟨A3, c3, rfl⟩ := ins_len HT3.out.ints
          have hz4 : zs2.length ≤ 2 * s.size := by omega
          clear HS3 hz2
          go_wp2_with (go_at_call 122; (refine (sortInts_any w.heap.size (.slice A3 zs2.length c3) zs2 _ HT3.out.ints (by omega)).mono ?_); rintro e w5 ⟨rfl, hi, hg⟩; have HP : Hid (TrPost w s.size (.returned (.slice A3 zs2.length c3)) w5) := tr_end HT3.out hi hg (by omega); clear hi hg)
          go_ret
          exact HP.out
end Go.Proofs.YtoofphhfealcaaaGreatDoor
