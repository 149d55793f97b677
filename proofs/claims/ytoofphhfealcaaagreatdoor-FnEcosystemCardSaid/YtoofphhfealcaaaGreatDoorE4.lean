/-
  THE LIBRARY's strings.Builder, in plain words: WriteString, WriteByte, WriteRune, String, at a builder that a call has made.
  WALKS: zzReplaceAll at a mark of one byte; CRAN's versions.
  WALKS: CRAN's versions.
  WALKS: Debian's versions.
-/
import Derived.Shelf.Strings.BuilderRune
import Derived.Test.YtoofphhfealcaaaGreatDoorS
import Derived.Test.YtoofphhfealcaaaGreatDoorD3
import Derived.Laws.IdiomStrings
import Derived.Lib.AtoiErrMem
import Derived.WalkSmall
namespace Go.Proofs
open Go.RowKit
theorem Tryz.bld_WriteString (B b : Nat) (bs : List Value) (s : ByteArray) (w : World) (h : Lib.IsBuilderF 166 5 B b bs w) (hlen : bs.length + s.size ≤ 140737488355328) (hBw : B ≤ w.heap.size) :
    Calls Tryz.prog 90 #[.pointer (some ⟨b, 0, none⟩), .string s] w fun e w' => e = .returned (.tuple #[.int .i64 s.size, .nilIface]) ∧ (Lib.BuilderAtF 166 5 B b (.pointer (some ⟨b, 0, none⟩)) (bs ++ Lib.strCells s) w' ∧ Below B w w' ∧ Lib.OthersKept 5 (some b) w w') :=
  Any.Builder_WriteString_k { Tryz.lays159 with } Tryz.Builder_Extra_159 B b bs s w h hlen hBw
theorem Tryz.bld_WriteRune (B b : Nat) (bs : List Value) (r : Int) (hr0 : -2147483648 ≤ r) (hr1 : r ≤ 2147483647) (w : World) (h : Lib.IsBuilderF 166 5 B b bs w) (hlen : bs.length + 4 ≤ 140737488355328) (hBw : B ≤ w.heap.size) :
    Calls Tryz.prog 105 #[.pointer (some ⟨b, 0, none⟩), .int .i32 r] w fun e w' => e = .returned (.tuple #[.int .i64 (Lib.runeCells r).length, .nilIface]) ∧ (Lib.BuilderAtF 166 5 B b (.pointer (some ⟨b, 0, none⟩)) (bs ++ Lib.runeCells r) w' ∧ Below B w w' ∧ Lib.OthersKept 5 (some b) w w') :=
  Any.Builder_WriteRune_k { Tryz.lays159 with } Tryz.Builder_Extra_159 B b bs r hr0 hr1 w h hlen hBw
theorem Tryz.bld_WriteByte (B b : Nat) (bs : List Value) (c : Int) (w : World) (h : Lib.IsBuilderF 166 5 B b bs w) (hlen : bs.length + 1 ≤ 140737488355328) (hBw : B ≤ w.heap.size) :
    Calls Tryz.prog 91 #[.pointer (some ⟨b, 0, none⟩), .int .u8 c] w fun e w' => e = .returned .nilIface ∧ (Lib.BuilderAtF 166 5 B b (.pointer (some ⟨b, 0, none⟩)) (bs ++ [.int .u8 c]) w' ∧ Below B w w' ∧ Lib.OthersKept 5 (some b) w w') :=
  Any.Builder_WriteByte_k { Tryz.lays159 with } Tryz.Builder_Extra_159 B b bs c w h hlen hBw
theorem Tryz.bld_String (B b : Nat) (l : List UInt8) (w : World) (h : Lib.IsBuilderF 166 5 B b (Lib.byteCells l) w) (hBw : B ≤ w.heap.size) :
    Calls Tryz.prog 92 #[.pointer (some ⟨b, 0, none⟩)] w fun e w' => e = .returned (.string ⟨l.toArray⟩) ∧ (Lib.IsBuilderF 166 5 B b (Lib.byteCells l) w' ∧ Below B w w' ∧ Lib.OthersKept 5 (some b) w w') :=
  Any.Builder_String_any_k { Tryz.lays159 with } Tryz.Builder_Extra_159 B b l w h hBw
end Go.Proofs

namespace Go.Proofs.YtoofphhfealcaaaGreatDoor
open Go.RowKit

/-- Bytes of the call's own, behind a slice. -/
def Byt (w : World) (base : Nat) (v : Value) (l : List UInt8) : Prop := w.ownsRow base 5 1 v l.length (Lib.byteCells l)
theorem byt_nil (w : World) (base : Nat) : Byt w base (.slice none 0 0) [] := World.ownsRow_nil _ _ _ _
theorem info5 : (Tryz.prog.info? 5).map (fun i => (i.zero, i.size, i.bytes)) = some (some (.int .u8 0), 1, 1) := by kernel_rfl
theorem und148 : Tryz.prog.underlying 148 = some (.slice 5) := by kernel_rfl
theorem und5 : Tryz.prog.underlying 5 = some (.int .u8) := by kernel_rfl
theorem und9 : Tryz.prog.underlying 9 = some .string := by kernel_rfl
theorem byt_len {w : World} {base : Nat} {v : Value} {l : List UInt8} (h : Byt w base v l) : ∃ A c, v = .slice A l.length c := by
  rcases h.2 with ⟨rfl, h0⟩ | ⟨g, cap, cur, rfl, _⟩
  · exact ⟨none, 0, by rw [h0]⟩
  · exact ⟨_, cap, rfl⟩
/-- string(b). -/
theorem byt_str {w : World} {base : Nat} {v : Value} {l : List UInt8} (h : Byt w base v l) : (convert 148 9 v).run Tryz.prog w = .ok (.string (mk l)) w := by
  rcases h.2 with ⟨rfl, h0⟩ | ⟨g, cap, cur, rfl, _, hh, h1, h2, h3, h4⟩
  · have hl : l = [] := List.eq_nil_of_length_eq_zero h0
    subst hl
    rw [run_convert_bytes_string w 148 9 5 none 0 0 und148 und5 und9]
    rfl
  · refine run_convert_bytes_back w 148 9 5 ⟨g, 0, none⟩ cap l und148 und5 und9 (fun j hj => ?_)
    have h5 : cur[j]? = some (.int .u8 (l[j].toNat : Int)) := by
      have := congrArg (fun x => x[j]?) h4
      simp only [Nat.mul_one, List.getElem?_take, hj, if_true] at this
      rw [Array.getElem?_toList] at this
      rw [this]
      simp [Lib.byteCells, hj]
    have ha : (⟨g, 0, none⟩ : Addr).add j = ⟨g, j, none⟩ := by
      unfold Addr.add
      split <;> simp_all
    rw [ha]
    simp [World.cell?, hh, h5]
section
variable {ops : Array Oper} {rest : List Oper} {o : Oper} {a : Act} {Q : Exit → Act → World → Prop}
/-- append(b, s...) of a string. -/
theorem app_bstr {w0 W : World} (base : Nat) (hgd : o.guard = none) (sl x : Operand)
    (ho : o.op = .call { callee := .builtin .append, args := #[sl, x], argTypes := #[148, 9] })
    (v : Value) (l : List UInt8) (s : ByteArray) (HO : Byt W base v l) (hs : a.eval sl = v) (hx : a.eval x = .string s)
    (HB : Below base w0 W) (hbase : base ≤ W.heap.size) (hl : l.length + s.size ≤ 140737488355328)
    (h : ∀ v1 w1, Byt w1 base v1 (l ++ bs s) → Below base w0 w1 → W.grownBy w1 v.ownBlock → wpList Tryz.prog ops Q rest (a.put o.dst v1) w1) :
    wpList Tryz.prog ops Q (o :: rest) a W := by
  obtain ⟨i, hi, hz⟩ := Option.map_eq_some_iff.1 info5
  injection hz with z1 z2
  injection z2 with z2 z3
  refine Lib.wpList_append_own_string W hgd sl x 148 9 ho base 5 i und148 und9 hi z1 z2 z3 v l.length _ hs HO s hx (by unfold maxLen; omega) hl hbase (fun v1 w1 k1 k2 _ => ?_)
  refine h v1 w1 ?_ ?_ k2
  · have e : Lib.byteCells l ++ Lib.strCells s = Lib.byteCells (l ++ bs s) := by rw [Lib.byteCells_append]; rfl
    rw [e] at k1
    unfold Byt
    rw [List.length_append, bs_len]
    exact k1
  · refine HB.trans ⟨k2.os, k2.tape, k2.output, k2.size, fun k hk => k2.block k (by omega) (fun e => ?_)⟩
    have := (HO.lt k e.symm).1
    omega
end

/-- Every c is put as d. -/
def repl (c d : UInt8) (l : List UInt8) : List UInt8 := l.map fun x => if x = c then d else x
theorem repl_none {c d : UInt8} {l : List UInt8} (h : c ∉ l) : repl c d l = l := by
  unfold repl
  rw [List.map_congr_left (g := id) (fun x hx => by
    have : x ≠ c := by rintro rfl; exact h hx
    simp [this])]
  simp
theorem repl_hit {c d : UInt8} {s : ByteArray} {i : Nat} (h : First c (bs s) i) : repl c d (bs s) = bs (s.extract 0 i) ++ d :: repl c d (bs (s.extract (i + 1) s.size)) := by
  obtain ⟨h1, h2⟩ := first_split h
  rw [bs_extract, bs_extract]
  have hl := bs_len s
  rw [List.drop_zero, Nat.sub_zero, List.take_of_length_le (i := s.size - (i + 1)) (by simp; omega)]
  have h3 := repl_none (d := d) h2
  conv => lhs; rw [h1]
  unfold repl at *
  rw [List.map_append, List.map_cons, h3]
  simp

set_option maxHeartbeats 4000000 in
theorem zzReplaceAll_any (s : ByteArray) (c d : UInt8) (w : World) (hs : s.size ≤ 4294967296) :
    Calls Tryz.prog 46 #[.string s, .string (mk [c]), .string (mk [d])] w fun e w' => e = .returned (.string (mk (repl c d (bs s)))) ∧ Below w.heap.size w w' := by
  have hz : (mk [c]).size = 1 := by simp [mk_size]
  have hz2 : (mk [d]).size = 1 := by simp [mk_size]
  go_enter Tryz.func46, Tryz.ntmps46
  go_wp2_with fail
  go_loopw [0, 7] (fun r v wr => ∃ (t : ByteArray) (l : List UInt8), r = .string t ∧ t.size ≤ s.size ∧ l.length + t.size ≤ s.size ∧ Hid (repl c d (bs s) = l ++ repl c d (bs t)) ∧ Byt wr w.heap.size v l ∧ Below w.heap.size w wr)
    (fun r _ _ => match r with | .string t => t.size | _ => 0)
  case atStart => exact ⟨s, [], rfl, Nat.le_refl _, by simp, rfl, byt_nil _ _, Below.refl _ _⟩
  case round =>
    obtain ⟨t, l, rfl, ht, hd, HP, hown, hbel⟩ := hrel
    have hsz := hbel.size
    rcases first_or c (bs t) with hn | ⟨i, hi⟩
    · have HP1 : Hid (repl c d (bs s) = l ++ bs t) := by have := HP.out; rw [repl_none hn] at this; exact this
      have HN := Lib.hid hn
      clear hn HP
      go_wp2_with (first
        | (go_at_call 37; refine (zzIndex_no t c _ (by omega) HN.out).mono ?_; rintro e w' ⟨rfl, rfl⟩)
        | (at_builtin; go_loud (refine app_bstr (w0 := w) w.heap.size rfl _ _ rfl _ l t hown rfl rfl hbel hsz (by omega) ?_); intro v1 w1 hown1 hbel1 _; have hcv := byt_str hown1))
      go_ret
      exact ⟨by rw [HP1.out]; rfl, hbel1⟩
    · have hlt := hi.lt
      rw [bs_len] at hlt
      have HP1 : Hid (repl c d (bs s) = (l ++ bs (t.extract 0 i)) ++ bs (mk [d]) ++ repl c d (bs (t.extract (i + 1) t.size))) := by have := HP.out; rw [repl_hit hi] at this; rw [bs_mk]; show _ = _; simpa using this
      have HI := Lib.hid hi
      have hl1 : (l ++ bs (t.extract 0 i)).length = l.length + i := by simp [bs_len]; omega
      clear hi HP
      go_wp2_with (first
        | (go_at_call 37; refine (zzIndex_yes t c i _ (by omega) HI.out).mono ?_; rintro e w' ⟨rfl, rfl⟩)
        | (at_builtin; (refine app_bstr (w0 := w) w.heap.size rfl _ _ rfl _ l (t.extract 0 i) hown rfl rfl hbel hsz (by simp; omega) ?_); intro v1 w1 hown1 hbel1 _; have hsz1 := hbel1.size)
        | (at_builtin; go_loud (refine app_bstr (w0 := w) w.heap.size rfl _ _ rfl _ (l ++ bs (t.extract 0 i)) (mk [d]) hown1 rfl rfl hbel1 hsz1 (by rw [hl1]; omega) ?_); intro v2 w2 hown2 hbel2 _))
      go_roundw
      case rel => exact ⟨_, _, rfl, by simp; omega, by rw [List.length_append, hl1, bs_len, hz2]; simp; omega, HP1, hown2, hbel2⟩
      case measure => simp; omega

/-- Every piece is a number. -/
def allNum (l : List ByteArray) : Bool := l.all fun x => isNum (bs x)
/-- The result of ParseCRANVersion. -/
def CranPost (w : World) (ai : Addr) (t : ByteArray) (e : Ending) (w' : World) : Prop :=
  ∃ cs er, e = .returned (.tuple #[.agg cs, er]) ∧ er = (if bs t = [] ∨ allNum (pieces 46 (mk (repl 45 46 (bs t)))) = true then .nilIface else .iface 364 (.pointer (some ai))) ∧ Below w.heap.size w w'

end Go.Proofs.YtoofphhfealcaaaGreatDoor

namespace Go.Proofs.YtoofphhfealcaaaGreatDoor
open Go.RowKit

theorem pieces_size {c : UInt8} {s x : ByteArray} (h : x ∈ pieces c s) : x.size ≤ s.size := by
  unfold pieces at h
  rw [List.mem_map] at h
  obtain ⟨l, h1, rfl⟩ := h
  rw [mk_size, ← bs_len]
  exact cutBy_mem_len _ _ l h1
theorem und47 : Tryz.prog.underlying 47 = some (.slice 43) := by kernel_rfl
theorem make_ptrs (t : TypeId) (ht : Tryz.prog.underlying t = some (.slice 43)) (n c : Nat) (hn : n ≤ c) (hc : c ≤ 17592186044416) (w : World) :
    (Instr.makeSlice t (.int .i64 (n : Int)) (.int .i64 (c : Int))).run Tryz.prog w = .ok (.slice (some ⟨w.heap.size, 0, none⟩) n c) (w.alloc (.cells (madeCells #[.pointer none] c) 43)) := by
  obtain ⟨i0, hi, hz0, hz1, hz2⟩ := info_parts info43
  have := run_make (P := Tryz.prog) (w := w) t 43 i0 (.pointer none) ht hi hz0 .i64 .i64 (n : Int) (c : Int) (by omega) (by omega) (by rw [hz2]; omega) (by omega)
  rw [this, hz1]
  simp [Value.cells]
section
variable {ops : Array Oper} {rest : List Oper} {o : Oper} {a : Act} {Q : Exit → Act → World → Prop}
/-- append of one number, at a slice type of any name. -/
theorem app_compT (t : TypeId) (ht : Tryz.prog.underlying t = some (.slice 43)) {w0 W : World} (base : Nat) (hgd : o.guard = none) (s x : Operand)
    (ho : o.op = .call { callee := .builtin .append, args := #[s, x], argTypes := #[t, t] })
    (v : Value) (l : List (Nat × List UInt8)) (p : Nat) (d : List UInt8) (HO : Comps W base v l) (hp : base ≤ p) (hB : BigAt W base p (mk d)) (hs : a.eval s = v) (hx : a.eval x = .slice (some ⟨W.heap.size, 0, none⟩) 1 1)
    (HB : Below base w0 W) (hbase : base ≤ W.heap.size) (hl : l.length ≤ 8796093022207)
    (h : ∀ v1 w1, Comps w1 base v1 (l ++ [(p, d)]) → Below base w0 w1 → W.grownBy w1 v.ownBlock → wpList Tryz.prog ops Q rest (a.put o.dst v1) w1) :
    wpList Tryz.prog ops Q (o :: rest) a (W.alloc (.cells #[.pointer (some ⟨p, 0, none⟩)] 43)) :=
  app1 base hgd s x t 43 (.pointer none) 1 8 ho ht info43 rfl (by omega) (by omega) v l.length _ #[.pointer (some ⟨p, 0, none⟩)] hs hx rfl (by simp [Value.oneCell']) HO.own HB hbase (by omega)
    fun v1 w1 hown hB1 hg => h v1 w1 ⟨by simpa using hown, fun x hx => by
      have hr : ∀ k cs e f, v.ownBlock = some k → W.heap[k]? = some (.cells cs e f) → e ≠ 112 ∧ e ≠ 156 := fun k cs e f hk hc => by
        have := own_row_type HO.own k cs e f hk hc
        subst this
        exact ⟨by decide, by decide⟩
      rw [List.mem_append, List.mem_singleton] at hx
      rcases hx with hx | rfl
      · exact ⟨(HO.big x hx).1, bigAt_keep (HO.big x hx).2 hg hr⟩
      · exact ⟨hp, bigAt_keep hB hg hr⟩⟩ hB1 hg
end
theorem comps_made (w : World) (c : Nat) (hc : c ≤ maxLen) : Comps (w.alloc (.cells (madeCells #[.pointer none] c) 43)) w.heap.size (.slice (some ⟨w.heap.size, 0, none⟩) 0 c) [] := by
  refine ⟨⟨by simp, .inr ⟨w.heap.size, c, _, rfl, Nat.le_refl _, heap_alloc_new w _, Nat.zero_le _, hc, ?_, by simp⟩⟩, fun x hx => by simp at hx⟩
  simp [madeCells]

/-- What the loop over the pieces has in hand. -/
structure Ck (w1 wr : World) (base : Nat) (v : Value) (ps : List ByteArray) (k : Nat) (l : List (Nat × List UInt8)) : Prop where
  comps : Comps wr base v l
  below : Below base w1 wr
  len : l.length = k
  num : allNum (ps.take k) = true

set_option maxRecDepth 100000 in
set_option maxHeartbeats 8000000 in
theorem parseCRAN_any (s : ByteArray) (w : World) (a ae ai au : Addr) (hG : Gl w a ae ai au) (hs : s.size ≤ 1048576) : Calls Tryz.prog 24 #[.string s] w (CranPost w ai s) := by
  have HG := Lib.hid hG
  have hw20 := hG.size
  clear hG
  rcases ise_dec s with ⟨hse, hsb⟩ | ⟨hse, hsb⟩
  · have HSB := Lib.hid hsb
    clear hsb
    have hee : (s.toList == []) = true := eq_empty HSB.out
    go_enter Tryz.func24, Tryz.ntmps24
    go_wp2_with fail
    refine bodyPost_ret (by simp [results, Tryz.results24, go_sem, *]; try rfl) rfl ?_
    refine ⟨_, _, rfl, by rw [if_pos (.inl HSB.out)], ?_⟩
    repeat (first | exact Below.refl _ _ | (refine Below.setCell ?_ (by simp) _) | (refine Below.alloc ?_ (by simp) _))
  · have HSB := Lib.hid hsb
    clear hsb
    have hee : (s.toList == []) = false := ne_empty HSB.out
    have hrs : (mk (repl 45 46 (bs s))).size = s.size := by rw [mk_size]; simp [repl, bs_len]
    have HPL := Lib.hid (pieces_len 46 (mk (repl 45 46 (bs s))))
    have HPS : Hid (∀ x ∈ pieces 46 (mk (repl 45 46 (bs s))), x.size ≤ s.size) := fun x hx => by have := pieces_size hx; rw [hrs] at this; exact this
    go_enter Tryz.func24, Tryz.ntmps24
    go_wp2_with (first
      | (go_at_call 46; refine (zzReplaceAll_any s 45 46 _ (by omega)).mono ?_; rintro e w1 ⟨rfl, hB1⟩; have HB1 := Lib.hid hB1; have hsz1 := hB1.size; simp at hsz1; clear hB1)
      | (go_at_call 20; refine (zzSplit_any (mk (repl 45 46 (bs s))) 46 _ (by omega)).mono ?_; rintro e w2 ⟨v, rfl, hS, hB2⟩; obtain ⟨A, cp, rfl⟩ := strs_len hS; have HS := Lib.hid hS; have HB2 := Lib.hid hB2; have hsz2 := hB2.size; generalize hn : (pieces 46 (mk (repl 45 46 (bs s)))).length = n at *; have hnle : n ≤ s.size + 1 := (by have := HPL.out; rw [hrs] at this; exact this); have hmk : ∀ W, (Instr.makeSlice 47 (.int .i64 0) (.int .i64 (n : Int))).run Tryz.prog W = .ok (.slice (some ⟨W.heap.size, 0, none⟩) 0 n) (W.alloc (.cells (madeCells #[.pointer none] n) 43)) := (make_ptrs 47 und47 0 n (Nat.zero_le _) (by omega)); have HN := Lib.hid hn; clear hS hB2 hn))
    generalize hps : pieces 46 (mk (repl 45 46 (bs s))) = ps at *
    have HPE := Lib.hid hps
    clear hps
    have hpl : ps.length = n := HN.out
    have HBK : Hid (w2.heap[w.heap.size]? = some (.cells #[.slice none 0 0] 53)) := by
      show _ = _
      rw [HB2.out.block _ (by omega), HB1.out.block _ (by simp)]
      exact heap_alloc_new w _
    have HG2 := Lib.hid (gl_below (gl_below (gl_below HG.out ((Below.refl _ _).alloc (Nat.le_refl _) (.cells #[.slice none 0 0] 53))) HB1.out) HB2.out)
    have HB3 : Hid (Below w.heap.size w w2) := by
      have h1 : Below w.heap.size w (w.alloc (.cells #[.slice none 0 0] 53)) := (Below.refl _ _).alloc (Nat.le_refl _) _
      exact (h1.trans (HB1.out.mono (by simp))).trans (HB2.out.mono (by omega))
    have HSB2 : Hid (bs s ≠ []) := HSB.out
    go_loopw [5, 21] (fun v i wr => ∃ (k : Nat) (l : List (Nat × List UInt8)), i = .int .i64 k ∧ k ≤ n ∧ Hid (Ck w2 wr w2.heap.size v ps k l))
      (fun _ i _ => n - (intOf i).toNat)
    case atStart => exact ⟨0, [], rfl, Nat.zero_le _, comps_made w2 n (by unfold maxLen; omega), (Below.refl _ _).alloc (Nat.le_refl _) _, rfl, rfl⟩
    case round =>
      obtain ⟨k, l, rfl, hk, HK⟩ := hrel
      have hwz := HK.out.below.size
      have HBR : Hid (wr.heap[w.heap.size]? = some (.cells #[.slice none 0 0] 53)) := by
        show _ = _
        rw [HK.out.below.block _ (by omega)]
        exact HBK.out
      have c0 : wr.cell? ⟨w.heap.size, 0, none⟩ = some (.slice none 0 0) := by rw [Lib.cell_of_heap HBR.out]; rfl
      have f0 : wr.frozen? ⟨w.heap.size, 0, none⟩ = false := Lib.frozen_of_heap HBR.out 0
      by_cases hlt : k < n
      · obtain ⟨g, cp2, hA, hg1, hg2, hcs⟩ := strs_cells HS.out (by omega)
        injection hA with hA1 hA2 hA3
        subst hA1
        have hck : wr.cell? ⟨g, k, none⟩ = some (.string (ps[k]'(by omega))) := by
          rw [← hcs k (by omega)]
          exact HK.out.below.cell (p := ⟨g, k, none⟩) hg2
        have HX : Hid (ps[k]? = some (ps[k]'(by omega))) := List.getElem?_eq_getElem _
        generalize (ps[k]'(by omega)) = x at hck HX
        have hxs : x.size ≤ s.size := HPS.out x (List.mem_of_getElem? HX.out)
        have HI := Lib.hid (intB_new wr)
        have HE := Lib.hid (gl_of HG2.out HK.out.below).toErrs
        have HTK : Hid (allNum (ps.take (k + 1)) = (allNum (ps.take k) && isNum (bs x))) := by
          show _ = _
          unfold allNum
          rw [List.take_add_one, HX.out, List.all_append]
          simp
        clear hcs hA2 hA3
        cases hnum : isNum (bs x)
        · have HNO := Lib.hid hnum
          clear hnum
          go_wp2_with (go_at_call 47; go_loud (refine (setString_no wr.heap.size x _ a ae HI.out (errs_alloc HE.out _) (by simp; omega) (by omega) (by omega) HNO.out).mono ?_); rintro e w3 ⟨rfl, b2⟩; have HK3 := Lib.hid (kp_keep b2 (by simp)); have hgi := (gl_of (gl_of HG2.out HK.out.below) HK3.out).inv; obtain ⟨hc3, hf3⟩ := bcell HK3.out; have hw3 := HK3.out.size; clear b2)
          have hne : w.heap.size ≠ 1 := by omega
          have c3 : w3.cell? ⟨w.heap.size, 0, none⟩ = some (.slice none 0 0) := by rw [hc3 _ _ (by omega)]; exact c0
          have f3 : w3.frozen? ⟨w.heap.size, 0, none⟩ = false := by rw [hf3 _ _ (by omega)]; exact f0
          go_region
          all_goals go_wp2_with fail
          refine bodyPost_ret (by simp [results, Tryz.results24, go_sem, *]; try rfl) rfl ?_
          refine ⟨_, _, rfl, ?_, ?_⟩
          · rw [HPE.out, if_neg]
            rintro (h | h)
            · exact HSB2.out h
            · have := List.all_eq_true.1 h x (List.mem_of_getElem? HX.out)
              rw [HNO.out] at this
              cases this
          · exact Below.drew (Below.setCell ((HB3.out.trans (HK.out.below.mono (by omega))).trans (HK3.out.mono (by omega))) (by simp) _)
        · have HNO := Lib.hid hnum
          clear hnum
          go_wp2_with (first
            | (go_at_call 47; go_loud (refine (setString_yes wr.heap.size x _ a ae HI.out (errs_alloc HE.out _) (by simp; omega) (by omega) (by omega) HNO.out).mono ?_); rintro e w3 ⟨rfl, b1, b2⟩; have HB := Lib.hid b1; have HK3 := Lib.hid (kp_keep b2 (by simp)); have hw3 := HK3.out.size; clear b1 b2)
            | (at_builtin; go_loud (refine app_compT 47 und47 (w0 := w2) (W := w3) w2.heap.size rfl _ _ rfl _ l _ (bs x) (comps_below HK.out.comps HK3.out) (by omega) (comp_big HB.out (by simp; omega)) rfl rfl (HK.out.below.trans (HK3.out.mono (by omega))) (by omega) (by have := HK.out.len; omega) ?_); intro v1 w4 hc4 hb4 hg4; have HC4 := Lib.hid hc4; have HB4 := Lib.hid hb4; clear hc4 hb4 hg4))
          go_roundw
          case rel => exact ⟨k + 1, _, by simp, by omega, HC4.out, HB4.out, by rw [List.length_append, HK.out.len]; rfl, by rw [HTK.out, HK.out.num, HNO.out]; rfl⟩
          case measure => simp only [intOf]; omega
      · obtain ⟨p, m, c, rfl⟩ := comps_slice HK.out.comps
        go_wp2_with fail
        refine bodyPost_ret (by simp [results, Tryz.results24, go_sem, *]; try rfl) rfl ?_
        refine ⟨_, _, rfl, ?_, ?_⟩
        · have h1 := HK.out.num
          rw [List.take_of_length_le (by omega)] at h1
          rw [HPE.out, if_pos (.inr h1)]
        · exact (HB3.out.trans (HK.out.below.mono (by omega))).setCell (by simp) _

end Go.Proofs.YtoofphhfealcaaaGreatDoor

namespace Go.Proofs.YtoofphhfealcaaaGreatDoor
open Go.RowKit

/-- The globals, and the table of white space. -/
structure Gt (w : World) (a ae ai au : Addr) : Prop extends Gl w a ae ai au where
  tab : Lib.TabIs Tryz.prog w "strings.asciiSpace" .u8 Lib.asciiSpaceTab
theorem spc_named : Tryz.prog.globalNamed "strings.asciiSpace" = some 2 := by kernel_rfl
theorem gt_kp {l : List Nat} {w w1 : World} {a ae ai au : Addr} (h : Gt w a ae ai au) (hk : Kp l w w1) (hl : ∀ x ∈ l, 20 ≤ x) : Gt w1 a ae ai au := by
  refine ⟨gl_kp h.toGl hk hl, ?_⟩
  have h1 := h.tab
  unfold Lib.TabIs World.var? at *
  rw [spc_named] at *
  simp only [Option.bind_some] at *
  rw [hk.block 2 (by have := h.size; omega) (fun hm => by have := hl 2 hm; omega)]
  exact h1
theorem gt_below {w w1 : World} {a ae ai au : Addr} (h : Gt w a ae ai au) (hk : Below w.heap.size w w1) : Gt w1 a ae ai au := gt_kp h (kp_below hk) (by simp)
theorem bytesWorld_below (w : World) (s : ByteArray) : Below w.heap.size w (Lib.bytesWorld w 5 s) :=
  Lib.below_freeze ((Below.drew (Below.refl _ w)).alloc (Nat.le_refl _) _) (p := ⟨w.heap.size, _, none⟩) (Nat.le_refl _) 1

/-- The text without the white space around it. -/
def trimB (s : ByteArray) : ByteArray := ⟨(Lib.trimSpace s.data.toList).toArray⟩
theorem trimSpace_any (s : ByteArray) (w : World) (a ae ai au : Addr) (hG : Gt w a ae ai au) (hs : s.size ≤ 1048576) (ha : Asc (bs s)) : Calls Tryz.prog 48 #[.string s] w fun e w' => e = .returned (.string (trimB s)) ∧ Below w.heap.size w w' := by
  refine (Tryz.strings_TrimSpace s w (by omega) (fun j b hb => ha b (List.mem_of_getElem? hb)) hG.tab).mono ?_
  rintro e w' ⟨rfl, rfl⟩
  exact ⟨rfl, bytesWorld_below w s⟩
theorem trimB_size (s : ByteArray) : (trimB s).size ≤ s.size := by
  have h1 : ∀ (p : UInt8 → Bool) (l : List UInt8), (l.dropWhile p).length ≤ l.length := fun p l => (List.dropWhile_suffix p).sublist.length_le
  have h2 : (trimB s).size = (Lib.trimSpace s.data.toList).length := by rw [← bs_len]; simp [trimB, bs]
  rw [h2, ← bs_len]
  unfold Lib.trimSpace bs
  rw [List.length_reverse]
  refine Nat.le_trans (h1 _ _) ?_
  rw [List.length_reverse]
  exact h1 _ _

theorem contains_no (s : ByteArray) (c : UInt8) (w : World) (hs : s.size ≤ 4294967296) (h : c ∉ bs s) : Calls Tryz.prog 50 #[.string s, .string (mk [c])] w fun e w' => e = .returned (.bool false) ∧ w = w' := by
  have HN := Lib.hid h
  clear h
  go_enter Tryz.func50, Tryz.ntmps50
  go_wp2_with (go_at_call 37; refine (zzIndex_no s c _ hs HN.out).mono ?_; rintro e w' ⟨rfl, rfl⟩)
  go_ret
  exact ⟨rfl, rfl⟩
theorem contains_yes (s : ByteArray) (c : UInt8) (i : Nat) (w : World) (hs : s.size ≤ 4294967296) (h : First c (bs s) i) : Calls Tryz.prog 50 #[.string s, .string (mk [c])] w fun e w' => e = .returned (.bool true) ∧ w = w' := by
  have HN := Lib.hid h
  clear h
  go_enter Tryz.func50, Tryz.ntmps50
  go_wp2_with (go_at_call 37; refine (zzIndex_yes s c i _ hs HN.out).mono ?_; rintro e w' ⟨rfl, rfl⟩)
  go_ret
  exact ⟨rfl, rfl⟩
theorem splitAround_first (s : ByteArray) (c : UInt8) (i : Nat) (w : World) (hs : s.size ≤ 1048576) (h : First c (bs s) i) :
    Calls Tryz.prog 51 #[.string s, .string (mk [c]), .bool false] w fun e w' => ∃ y, e = .returned (.tuple #[.string (s.extract 0 i), .string y]) ∧ y.size ≤ s.size ∧ Below w.heap.size w w' := by
  have HN := Lib.hid h
  have hlt := h.lt
  rw [bs_len] at hlt
  have hm : ((i : Int) == -1) = false := by rw [beq_eq_false_iff_ne]; omega
  clear h
  go_enter Tryz.func51, Tryz.ntmps51
  go_wp2_with (go_at_call 37; refine (zzIndex_yes s c i _ (by omega) HN.out).mono ?_; rintro e w' ⟨rfl, rfl⟩)
  go_quiet (fail)
  go_wp2_with fail
  go_ret2
  exact ⟨_, rfl, by simp, bl_drewN (Below.refl _ _) _⟩
theorem lastI_range (s : ByteArray) (c : UInt8) : Lib.lastIndex s.data.toList (mk [c]).data.toList = -1 ∨ ∃ i : Nat, Lib.lastIndex s.data.toList (mk [c]).data.toList = i ∧ i < s.size := by
  have h1 : (mk [c]).data.toList.length = 1 := rfl
  have h2 : s.data.toList.length = s.size := bs_len s
  unfold Lib.lastIndex
  split
  · rcases Lib.lastOcc_spec s.data.toList (mk [c]).data.toList (s.data.toList.length - (mk [c]).data.toList.length + 1) with ⟨h, _⟩ | ⟨i, hi, h, _⟩
    · exact .inl h
    · exact .inr ⟨i, h, by omega⟩
  · exact .inl rfl
theorem splitAround_last (s : ByteArray) (c : UInt8) (w : World) (hs : s.size ≤ 1048576) :
    Calls Tryz.prog 51 #[.string s, .string (mk [c]), .bool true] w fun e w' => ∃ x y, e = .returned (.tuple #[.string x, .string y]) ∧ Below w.heap.size w w' := by
  rcases lastI_range s c with h | ⟨i, h, hlt⟩
  · have HN := Lib.hid h
    clear h
    go_enter Tryz.func51, Tryz.ntmps51
    go_wp2_with (go_at_call 82; refine (Tryz.strings_LastIndex s (mk [c]) (by omega) _).mono ?_; rintro e w' ⟨rfl, rfl⟩; rw [HN.out])
    go_ret2
    exact ⟨_, _, rfl, Below.refl _ _⟩
  · have HN := Lib.hid h
    have hm : ((i : Int) == -1) = false := by rw [beq_eq_false_iff_ne]; omega
    clear h
    go_enter Tryz.func51, Tryz.ntmps51
    go_wp2_with (go_at_call 82; refine (Tryz.strings_LastIndex s (mk [c]) (by omega) _).mono ?_; rintro e w' ⟨rfl, rfl⟩; rw [HN.out])
    go_quiet (fail)
    go_wp2_with fail
    go_ret2
    exact ⟨_, _, rfl, bl_drewN (Below.refl _ _) _⟩
theorem kept_blk {w W : World} {o : Obj} (h : Below (w.heap.size + 1) (w.alloc o) W) : W.heap[w.heap.size]? = some o := by rw [h.block _ (by omega)]; exact heap_alloc_new w _
theorem cells3 {W : World} {b : Nat} {x y z : Value} {T : TypeId} (h : W.heap[b]? = some (.cells #[x, y, z] T)) : W.cell? ⟨b, 0, none⟩ = some x ∧ W.cell? ⟨b, 1, none⟩ = some y ∧ W.cell? ⟨b, 2, none⟩ = some z ∧ W.frozen? ⟨b, 0, none⟩ = false ∧ W.frozen? ⟨b, 1, none⟩ = false ∧ W.frozen? ⟨b, 2, none⟩ = false := by
  refine ⟨?_, ?_, ?_, ?_, ?_, ?_⟩ <;> simp [World.cell?, World.frozen?, h]
theorem set3 {B : Nat} {w W : World} {b : Nat} {x y z : Value} (h : Below B w W) (hb : B ≤ b) : Below B w (((W.setCell ⟨b, 0, none⟩ x).setCell ⟨b, 1, none⟩ y).setCell ⟨b, 2, none⟩ z) :=
  Below.setCell (Below.setCell (Below.setCell h hb _) hb _) hb _
/-- What the walk keeps of the world at ParseDebianVersion. -/
structure Db (w W : World) : Prop where
  at' : W.heap[w.heap.size]? = some (.cells #[.pointer none, .string (mk []), .string (mk [])] 55)
  below : Below w.heap.size w W
  lt : w.heap.size < W.heap.size
theorem db_start (w : World) : Db w (w.alloc (.cells #[.pointer none, .string (mk []), .string (mk [])] 55)) := ⟨heap_alloc_new w _, (Below.refl _ _).alloc (Nat.le_refl _) _, by simp⟩
theorem db_step {w W W1 : World} (h : Db w W) (hb : Below W.heap.size W W1) : Db w W1 :=
  ⟨by rw [hb.block _ h.lt]; exact h.at', h.below.trans (hb.mono (by have := h.lt; omega)), Nat.lt_of_lt_of_le h.lt hb.size⟩
/-- The result of ParseDebianVersion. -/
def DebPost (w : World) (ai : Addr) (s : ByteArray) (e : Ending) (w' : World) : Prop :=
  ∃ cs er, e = .returned (.tuple #[.agg cs, er]) ∧ ((58 ∉ bs (trimB s) ∧ er = .nilIface) ∨ ∃ i, First 58 (bs (trimB s)) i ∧ ((isNum ((bs (trimB s)).take i) = true ∧ er = .nilIface) ∨ (isNum ((bs (trimB s)).take i) = false ∧ er = .iface 364 (.pointer (some ai))))) ∧ Below w.heap.size w w'
theorem contains_any (s : ByteArray) (c : UInt8) (w : World) (hs : s.size ≤ 4294967296) : Calls Tryz.prog 50 #[.string s, .string (mk [c])] w fun e w' => ∃ b, e = .returned (.bool b) ∧ w = w' := by
  rcases first_or c (bs s) with h | ⟨i, h⟩
  · refine (contains_no s c w hs h).mono ?_
    rintro e w' ⟨rfl, rfl⟩
    exact ⟨_, rfl, rfl⟩
  · refine (contains_yes s c i w hs h).mono ?_
    rintro e w' ⟨rfl, rfl⟩
    exact ⟨_, rfl, rfl⟩
set_option maxRecDepth 100000 in
set_option maxHeartbeats 8000000 in
theorem parseDebian_any (s : ByteArray) (w : World) (a ae ai au : Addr) (hG : Gt w a ae ai au) (hs : s.size ≤ 1048576) (ha : Asc (bs s)) : Calls Tryz.prog 25 #[.string s] w (DebPost w ai s) := by
  have HG := Lib.hid hG
  have HA := Lib.hid ha
  have hw20 := hG.size
  have HG1 := Lib.hid (gt_below hG ((Below.refl _ _).alloc (Nat.le_refl _) (.cells #[.pointer none, .string (mk []), .string (mk [])] 55)))
  clear hG ha
  have hts := trimB_size s
  generalize ht : trimB s = t at hts
  have HT := Lib.hid ht
  clear ht
  rcases first_or 58 (bs t) with hn | ⟨i, hi⟩
  · have HN := Lib.hid hn
    clear hn
    go_enter Tryz.func25, Tryz.ntmps25
    go_upto_region 15 with (first
      | (go_at_call 48; refine (trimSpace_any s _ a ae ai au HG1.out hs HA.out).mono ?_; rintro e w1 ⟨rfl, hB1⟩; rw [HT.out]; have HD1 := Lib.hid (db_step (db_start w) hB1); clear hB1)
      | (go_at_call 49; refine (newInt_zero _).mono ?_; rintro e w2 ⟨rfl, hB2⟩; have HD2 := Lib.hid (db_step HD1.out hB2); clear hB2)
      | (go_at_call 50; refine (contains_no t 58 _ (by omega) HN.out).mono ?_; rintro e w3 ⟨rfl, rfl⟩)
      | (go_at_call 50; refine (contains_any t 45 _ (by omega)).mono ?_; rintro e w3 ⟨b3, rfl, rfl⟩; cases b3)
      | (go_at_call 51; refine (splitAround_last t 45 _ (by omega)).mono ?_; rintro e w4 ⟨x, y, rfl, hB4⟩; have HD4 := Lib.hid (db_step HD2.out hB4); clear hB4))
    · obtain ⟨c0, c1, c2, f0, f1, f2⟩ := cells3 HD2.out.at'
      go_wp2_with fail
      refine bodyPost_ret (by simp [results, Tryz.results25, go_sem, *]; try rfl) rfl ?_
      exact ⟨_, _, rfl, by rw [HT.out]; exact .inl ⟨HN.out, rfl⟩, set3 HD2.out.below (Nat.le_refl _)⟩
    · obtain ⟨c0, c1, c2, f0, f1, f2⟩ := cells3 HD4.out.at'
      go_wp2_with fail
      refine bodyPost_ret (by simp [results, Tryz.results25, go_sem, *]; try rfl) rfl ?_
      exact ⟨_, _, rfl, by rw [HT.out]; exact .inl ⟨HN.out, rfl⟩, set3 HD4.out.below (Nat.le_refl _)⟩
  · have HN := Lib.hid hi
    have hlt := hi.lt
    rw [bs_len] at hlt
    have hbe : bs (t.extract 0 i) = (bs t).take i := by rw [bs_extract]; simp
    have hes : (t.extract 0 i).size ≤ 1048576 := by simp; omega
    clear hi
    cases hnum : isNum ((bs t).take i)
    · have HNO : Hid (isNum (bs (t.extract 0 i)) = false) := by show _ = _; rw [hbe]; exact hnum
      have HNU := Lib.hid hnum
      clear hnum hbe
      go_enter Tryz.func25, Tryz.ntmps25
      go_upto_region 9 with (first
        | (go_at_call 48; refine (trimSpace_any s _ a ae ai au HG1.out hs HA.out).mono ?_; rintro e w1 ⟨rfl, hB1⟩; rw [HT.out]; have HG2 := Lib.hid (gt_below HG1.out hB1); have HD1 := Lib.hid (db_step (db_start w) hB1); clear hB1)
        | (go_at_call 49; refine (newInt_zero _).mono ?_; rintro e w2 ⟨rfl, hB2⟩; have HG3 := Lib.hid (gt_below HG2.out hB2); have HD2 := Lib.hid (db_step HD1.out hB2); clear hB2)
        | (go_at_call 50; refine (contains_yes t 58 i _ (by omega) HN.out).mono ?_; rintro e w3 ⟨rfl, rfl⟩)
        | (go_at_call 51; refine (splitAround_first t 58 i _ (by omega) HN.out).mono ?_; rintro e w4 ⟨y, rfl, hy, hB4⟩; have HG4 := Lib.hid (gt_below HG3.out hB4); have HD4 := Lib.hid (db_step HD2.out hB4); clear hB4)
        | (go_at_call 52; refine (conv_no (t.extract 0 i) _ a ae ai au HG4.out.toGl hes HNO.out).mono ?_; rintro e w5 ⟨rfl, hB5⟩; have HD5 := Lib.hid (db_step HD4.out hB5); clear hB5))
      obtain ⟨c0, c1, c2, f0, f1, f2⟩ := cells3 HD5.out.at'
      go_wp2_with fail
      refine bodyPost_ret (by simp [results, Tryz.results25, go_sem, *]; try rfl) rfl ?_
      exact ⟨_, _, rfl, by rw [HT.out]; exact .inr ⟨i, HN.out, .inr ⟨HNU.out, rfl⟩⟩, set3 HD5.out.below (Nat.le_refl _)⟩
    · have HNO : Hid (isNum (bs (t.extract 0 i)) = true) := by show _ = _; rw [hbe]; exact hnum
      have HNU := Lib.hid hnum
      clear hnum hbe
      go_enter Tryz.func25, Tryz.ntmps25
      go_upto_region 11 with (first
        | (go_at_call 48; refine (trimSpace_any s _ a ae ai au HG1.out hs HA.out).mono ?_; rintro e w1 ⟨rfl, hB1⟩; rw [HT.out]; have HG2 := Lib.hid (gt_below HG1.out hB1); have HD1 := Lib.hid (db_step (db_start w) hB1); clear hB1)
        | (go_at_call 49; refine (newInt_zero _).mono ?_; rintro e w2 ⟨rfl, hB2⟩; have HG3 := Lib.hid (gt_below HG2.out hB2); have HD2 := Lib.hid (db_step HD1.out hB2); clear hB2)
        | (go_at_call 50; refine (contains_yes t 58 i _ (by omega) HN.out).mono ?_; rintro e w3 ⟨rfl, rfl⟩)
        | (go_at_call 51; refine (splitAround_first t 58 i _ (by omega) HN.out).mono ?_; rintro e w4 ⟨y, rfl, hy, hB4⟩; have HG4 := Lib.hid (gt_below HG3.out hB4); have HD4 := Lib.hid (db_step HD2.out hB4); clear hB4)
        | (go_at_call 52; refine (conv_yes (t.extract 0 i) _ a ae ai au HG4.out.toGl hes HNO.out).mono ?_; rintro e w5 ⟨rfl, _, hB5⟩; have HD5 := Lib.hid (db_step HD4.out hB5); clear hB5))
      go_upto_region 15 with (first
        | (go_at_call 50; refine (contains_any y 45 _ (by omega)).mono ?_; rintro e w3 ⟨b3, rfl, rfl⟩; cases b3)
        | (go_at_call 51; refine (splitAround_last y 45 _ (by omega)).mono ?_; rintro e w6 ⟨x6, y6, rfl, hB6⟩; have HD6 := Lib.hid (db_step HD5.out hB6); clear hB6))
      · obtain ⟨c0, c1, c2, f0, f1, f2⟩ := cells3 HD5.out.at'
        go_wp2_with fail
        refine bodyPost_ret (by simp [results, Tryz.results25, go_sem, *]; try rfl) rfl ?_
        exact ⟨_, _, rfl, by rw [HT.out]; exact .inr ⟨i, HN.out, .inl ⟨HNU.out, rfl⟩⟩, set3 HD5.out.below (Nat.le_refl _)⟩
      · obtain ⟨c0, c1, c2, f0, f1, f2⟩ := cells3 HD6.out.at'
        go_wp2_with fail
        refine bodyPost_ret (by simp [results, Tryz.results25, go_sem, *]; try rfl) rfl ?_
        exact ⟨_, _, rfl, by rw [HT.out]; exact .inr ⟨i, HN.out, .inl ⟨HNU.out, rfl⟩⟩, set3 HD6.out.below (Nat.le_refl _)⟩

end Go.Proofs.YtoofphhfealcaaaGreatDoor
