/-
  WALKS: Alpine's versions, at texts of ASCII: the hash.
  WALKS: Alpine's versions, at texts of ASCII: the build component.
  WALKS: Alpine's versions, at texts of ASCII: the suffixes.
  WALKS: Alpine's versions, at texts of ASCII: the suffixes' weights, the parser of suffixes.
  WALKS: Alpine's versions, at texts of ASCII: the parser of suffixes.
  WALKS: Alpine's versions, at every text.
  WALKS: fetchComponentsAndBuild with more components than wanted, if String answers.
-/
import Derived.Test.YtoofphhfealcaaaGreatDoorH1
import Derived.Test.YtoofphhfealcaaaGreatDoorJ3
import Derived.Deep.AppendLies
import Derived.Test.YtoofphhfealcaaaGreatDoorJ5
namespace Go.Proofs.YtoofphhfealcaaaGreatDoor
open Go.RowKit

set_option maxRecDepth 100000 in
set_option maxHeartbeats 2000000 in
theorem zzHash_any (s : ByteArray) (w : World) (hs : s.size ≤ 1048576) : Calls Tryz.prog 73 #[.string s] w fun e w' => ∃ t, e = .returned (.string t) ∧ t.size ≤ s.size ∧ w = w' := by
  by_cases h126 : NoHead 126 s
  · refine (zzHash_none s w h126).mono ?_
    rintro e w' ⟨rfl, rfl⟩
    exact ⟨_, rfl, by simp [mk_size], rfl⟩
  · have h0 : 0 < s.size := Nat.pos_of_ne_zero fun h => h126 fun h2 => absurd h2 (by omega)
    have hx : s[0]'h0 = 126 := Classical.byContradiction fun h => h126 fun _ => h
    have hsb : bs s ≠ [] := fun h => by have := bs_len s; rw [h] at this; simp at this; omega
    have hee := ne_empty hsb
    have h1 : ((s[0]'h0).toNat : Int) = 126 := by rw [hx]; rfl
    have H1 := Lib.hid h1
    have hne : (((s[0]'h0).toNat : Int) != 126) = false := by rw [h1]; rfl
    clear h126 hx hsb h1
    go_enter Tryz.func73, Tryz.ntmps73
    go_wp2_with fail
    go_loopw [3] (fun i wr => ∃ k : Nat, i = .int .i64 k ∧ 1 ≤ k ∧ k ≤ s.size ∧ w = wr) (fun i _ => s.size - (intOf i).toNat)
    case atStart => exact ⟨1, rfl, by omega, by omega, rfl⟩
    case round =>
      obtain ⟨k, rfl, hk1, hk, rfl⟩ := hrel
      clear hee hne
      have hfin : Hid ((s.extract 0 k).size ≤ s.size) := by show _ ≤ _; simp; omega
      by_cases hlt : k < s.size
      · go_wp2_with (go_at_call 97; refine (zzDigit_any _ _).mono ?_; rintro e w' ⟨rfl, rfl⟩; cases hdd : isDig (s[k]'hlt) <;> have HDD := Lib.hid hdd <;> clear hdd)
        all_goals first
          | (go_ret; exact ⟨_, rfl, by first | exact hfin.out | exact Nat.zero_le _, rfl⟩)
          | skip
        · go_roundw
          case rel =>
            exact ⟨k + 1, by go_num, by omega, by omega, trivial⟩
          case measure => simp [intOf]; omega
        · go_roundw
          case rel =>
            exact ⟨k + 1, by go_num, by omega, by omega, trivial⟩
          case measure => simp [intOf]; omega
      · go_wp2_with fail
        all_goals (go_ret; exact ⟨_, rfl, by first | exact hfin.out | exact Nat.zero_le _, rfl⟩)
set_option maxHeartbeats 1000000 in
theorem alpHash_all (b : Nat) (s : ByteArray) (w : World) (hs : s.size ≤ 1048576) (hA : AlpAny w b) :
    Calls Tryz.prog 43 #[.pointer (some ⟨b, 0, none⟩), .string s] w fun e w' => ∃ r, e = .returned (.string r) ∧ Of r s ∧ AlpAny w' b ∧ Kp [b] w w' := by
  obtain ⟨o, iv, rm, p, n, c, lt, p2, n2, c2, hh, q, hA⟩ := hA
  have HA := Lib.hid hA
  obtain ⟨⟨_, _, _, _, _, _, q6, _⟩, f⟩ := alp_cells hA
  have g6 := f 6
  clear f hA
  go_enter Tryz.func43, Tryz.ntmps43
  go_wp2_with (first
    | (go_at_call 73; refine (zzHash_any s _ hs).mono ?_; rintro e w' ⟨t, rfl, ht, rfl⟩; clear ht)
    | (go_at_call 69; refine (trimV _ _ _).mono ?_; rintro e w5 ⟨t5, rfl, ht5, rfl⟩; have HT5 := Lib.hid ht5; clear ht5))
  go_ret
  exact ⟨_, rfl, of_trim HT5.out, ⟨_, _, _, _, _, _, _, _, _, _, _, _, alp_set HA.out⟩, (Kp.refl _ _).setCell (by simp) _⟩
end Go.Proofs.YtoofphhfealcaaaGreatDoor

namespace Go.Proofs.YtoofphhfealcaaaGreatDoor
open Go.RowKit

/-- What zzAlpineBuild answers: nothing, or two texts, the second of digits alone. -/
def BldPost (w : World) (s : ByteArray) (e : Ending) (w' : World) : Prop :=
  (e = .returned (.slice none 0 0) ∧ Below w.heap.size w w') ∨
  ∃ x y, e = .returned (.slice (some ⟨w.heap.size, 0, none⟩) 2 2) ∧ w'.heap[w.heap.size]? = some (.cells #[.string x, .string y] 9) ∧ x.size ≤ s.size ∧ Digs y s.size ∧ Below w.heap.size w w'
set_option maxRecDepth 100000 in
set_option maxHeartbeats 2000000 in
theorem zzBuild_any (s : ByteArray) (w : World) (hs : s.size ≤ 1048576) : Calls Tryz.prog 74 #[.string s] w (BldPost w s) := by
  go_enter Tryz.func74, Tryz.ntmps74
  go_upto_region 3 with (go_at_call 111; refine (zzHas_any s ⟨#[45, 114]⟩ 0 _ (Nat.zero_le _) (by omega) (by decide)).mono ?_; rintro e w' ⟨b, rfl, hb, rfl⟩; have HB := Lib.hid hb; clear hb; cases b)
  · go_wp2_with fail
    go_ret
    exact .inl ⟨rfl, Below.refl _ _⟩
  · have h2 : 2 ≤ s.size := by have h := HB.out trivial; have e : ByteArray.size ⟨#[45, 114]⟩ = 2 := rfl; omega
    go_upto_region 4 with (go_at_call 96; refine (zzDigits_to s 2 _ h2 (by omega)).mono ?_; rintro e w' ⟨j, rfl, hle, hen, hdg, rfl⟩; have HDG := Lib.hid hdg; clear hdg)
    have hs1 := fun W => slice_hi s j hen W
    have hs2 := fun W => slice_ss s 2 j hle hen (2 : Int) (j : Int) rfl rfl W
    go_region
    all_goals
      go_wp2_with fail
      go_ret
      exact .inr ⟨_, _, rfl, heap_alloc_new _ _, by simp; omega, HDG.out, ((Below.refl _ _).drew).alloc (by simp) _⟩
theorem two_cells {W : World} {g : Nat} {x y : Value} {T : TypeId} (h : W.heap[g]? = some (.cells #[x, y] T)) :
    W.cell? ⟨g, 0, none⟩ = some x ∧ W.cell? ⟨g, 1, none⟩ = some y ∧ W.frozen? ⟨g, 0, none⟩ = false ∧ W.frozen? ⟨g, 1, none⟩ = false := by
  refine ⟨?_, ?_, ?_, ?_⟩ <;> simp [World.cell?, World.frozen?, h]
theorem heap_get_lt {W : World} {g : Nat} {o : Obj} (h : W.heap[g]? = some o) : g < W.heap.size := (Array.getElem?_eq_some_iff.1 h).1
/-- A text and no error; the version stands, nothing else is touched. -/
def StepPost (w : World) (b : Nat) (s : ByteArray) (e : Ending) (w' : World) : Prop := ∃ r, e = .returned (.tuple #[.string r, .nilIface]) ∧ r.size ≤ s.size ∧ AlpAny w' b ∧ Kp [b] w w'
set_option maxRecDepth 100000 in
set_option maxHeartbeats 4000000 in
theorem alpBuild_all (b : Nat) (s : ByteArray) (w : World) (a ae ai au : Addr) (hG : Gt w a ae ai au) (hs : s.size ≤ 1048576) (hA : AlpAny w b) :
    Calls Tryz.prog 44 #[.pointer (some ⟨b, 0, none⟩), .string s] w (StepPost w b s) := by
  obtain ⟨o, iv, rm, p, n, c, lt, p2, n2, c2, hh, q, hA⟩ := hA
  have hbw : b < w.heap.size := heap_get_lt hA
  have HA := Lib.hid hA
  have HG := Lib.hid hG.toGl
  clear hA hG
  rcases ise_dec s with ⟨hse, hsb⟩ | ⟨hse, hsb⟩
  · have hee := eq_empty hsb
    clear hse hsb
    go_enter Tryz.func44, Tryz.ntmps44
    go_wp2_with fail
    go_ret2
    exact ⟨_, rfl, Nat.le_refl _, ⟨_, _, _, _, _, _, _, _, _, _, _, _, HA.out⟩, Kp.refl _ _⟩
  · have hee := ne_empty hsb
    clear hse hsb
    have hnn : ∀ W, (binOp .eql 26 (.slice none 0 0) (.slice none 0 0)).run Tryz.prog W = .ok (.bool true) W := fun W => nil26 W
    have hnz : ∀ W, (binOp .eql 26 (.slice (some ⟨w.heap.size, 0, none⟩) 2 2) (.slice none 0 0)).run Tryz.prog W = .ok (.bool false) W := fun W => by
      have := Lib.run_eql_slice_nil (P := Tryz.prog) W 26 9 (some ⟨w.heap.size, 0, none⟩) 2 2 0 0 und26
      simpa using this
    go_enter Tryz.func44, Tryz.ntmps44
    go_upto_region 4 with (go_at_call 74; refine (zzBuild_any s _ hs).mono ?_; rintro e w1 (⟨rfl, hB⟩ | ⟨x, y, rfl, hg, hx, hy, hB⟩) <;> have HB := Lib.hid hB <;> clear hB)
    · have HA1 := Lib.hid (alp_below HA.out HB.out hbw)
      obtain ⟨⟨_, q1, _, _, _, _, _, _⟩, f⟩ := alp_cells HA1.out
      have g1 := f 1
      clear f
      go_wp2_with fail
      go_ret2
      exact ⟨_, rfl, Nat.le_refl _, ⟨_, _, _, _, _, _, _, _, _, _, _, _, alp_set HA1.out⟩, (kp_sub HB.out).setCell (by simp) _⟩
    · have HA1 := Lib.hid (alp_below HA.out HB.out hbw)
      have HGG := Lib.hid hg
      have HY := Lib.hid hy
      have hw1 : w.heap.size < w1.heap.size := heap_get_lt hg
      obtain ⟨c0, c1, f0, f1⟩ := two_cells hg
      have hne : b ≠ w.heap.size := by omega
      have hne2 : w.heap.size ≠ b := by omega
      have hyz := HY.out.size
      clear hg hy
      rcases ise_dec y with ⟨hse, hyb⟩ | ⟨hse, hyb⟩
      · have hye := eq_empty hyb
        clear hse
        have HG2 : Hid (Gl (w1.setCell ⟨w.heap.size, 1, none⟩ (.string ⟨#[48]⟩)) a ae ai au) := gl_of HG.out (HB.out.setCell (Nat.le_refl _) _)
        have hgn : (w1.setCell ⟨w.heap.size, 1, none⟩ (.string ⟨#[48]⟩)).heap[w.heap.size]? = some (.cells #[.string x, .string ⟨#[48]⟩] 9) := by
          have := heap_setCell_at w1 w.heap.size 1 (.string ⟨#[48]⟩) _ _ _ HGG.out
          simpa using this
        have HGN := Lib.hid hgn
        clear hgn
        go_upto_region 10 with (go_at_call 52; refine (conv_yes ⟨#[48]⟩ _ a ae ai au HG2.out (by decide) isNum_0).mono ?_; rintro e w3 ⟨rfl, _, hB3⟩; have HB3 := Lib.hid hB3; clear hB3)
        have hsz : (w1.setCell ⟨w.heap.size, 1, none⟩ (.string ⟨#[48]⟩)).heap.size = w1.heap.size := by simp
        have hBA : Below w.heap.size w (w1.setCell ⟨w.heap.size, 1, none⟩ (.string ⟨#[48]⟩)) := HB.out.setCell (Nat.le_refl _) _
        have HBW : Hid (Below w.heap.size w w3) := hBA.trans (HB3.out.mono (by rw [hsz]; omega))
        have HA3 := Lib.hid (alp_below HA.out HBW.out hbw)
        obtain ⟨⟨_, _, _, _, _, _, _, q7⟩, f⟩ := alp_cells HA3.out
        have g7 := f 7
        have hg3 : w3.heap[w.heap.size]? = some (.cells #[.string x, .string ⟨#[48]⟩] 9) := by
          rw [HB3.out.block _ (by rw [hsz]; exact hw1)]
          exact HGN.out
        obtain ⟨d0, d1, e0, e1⟩ := two_cells hg3
        clear f hBA hg3
        go_wp2_with (go_at_call 69; refine (trimV _ _ _).mono ?_; rintro e w5 ⟨t5, rfl, ht5, rfl⟩; have HT5 := Lib.hid ht5; clear ht5)
        go_ret2
        exact ⟨_, rfl, (of_trim HT5.out).size, ⟨_, _, _, _, _, _, _, _, _, _, _, _, alp_set HA3.out⟩, (kp_sub HBW.out).setCell (by simp) _⟩
      · have hye := ne_empty hyb
        clear hse
        have HG1 : Hid (Gl w1 a ae ai au) := gl_of HG.out HB.out
        go_upto_region 10 with (go_at_call 52; refine (conv_yes y _ a ae ai au HG1.out (by omega) (isNum_of_digs HY.out hyb)).mono ?_; rintro e w3 ⟨rfl, _, hB3⟩; have HB3 := Lib.hid hB3; clear hB3)
        have HBW : Hid (Below w.heap.size w w3) := HB.out.trans (HB3.out.mono (by omega))
        have HA3 := Lib.hid (alp_below HA.out HBW.out hbw)
        obtain ⟨⟨_, _, _, _, _, _, _, q7⟩, f⟩ := alp_cells HA3.out
        have g7 := f 7
        have hg3 : w3.heap[w.heap.size]? = some (.cells #[.string x, .string y] 9) := by
          rw [HB3.out.block _ hw1]
          exact HGG.out
        obtain ⟨d0, d1, e0, e1⟩ := two_cells hg3
        clear f hg3
        go_wp2_with (go_at_call 69; refine (trimV _ _ _).mono ?_; rintro e w5 ⟨t5, rfl, ht5, rfl⟩; have HT5 := Lib.hid ht5; clear ht5)
        go_ret2
        exact ⟨_, rfl, (of_trim HT5.out).size, ⟨_, _, _, _, _, _, _, _, _, _, _, _, alp_set HA3.out⟩, (kp_sub HBW.out).setCell (by simp) _⟩
end Go.Proofs.YtoofphhfealcaaaGreatDoor

namespace Go.Proofs.YtoofphhfealcaaaGreatDoor
open Go.RowKit

theorem info26 : (Tryz.prog.info? 26).map (fun i => (i.zero, i.size, i.bytes)) = some (some (.slice none 0 0), 1, 24) := by kernel_rfl
theorem und27 : Tryz.prog.underlying 27 = some (.slice 26) := by kernel_rfl
/-- Three texts, the third of digits. -/
def Tri (w : World) (x : Nat) : Prop := ∃ a b c, w.heap[x]? = some (.cells #[.string a, .string b, .string c] 9) ∧ Digs c 1048576
/-- A row of such. -/
structure Trs (w : World) (base : Nat) (v : Value) (l : List Nat) : Prop where
  own : w.ownsRow base 26 1 v l.length (l.map fun x => .slice (some ⟨x, 0, none⟩) 3 3)
  pts : ∀ x ∈ l, base ≤ x ∧ Tri w x
theorem trs_nil (w : World) (base : Nat) : Trs w base (.slice none 0 0) [] := ⟨World.ownsRow_nil _ _ _ _, fun x hx => by simp at hx⟩
theorem tri_below {w w1 : World} {x : Nat} (h : Tri w x) (hb : Below w.heap.size w w1) : Tri w1 x := by
  obtain ⟨a, b, c, h1, h2⟩ := h
  exact ⟨a, b, c, by rw [hb.block _ (heap_get_lt h1)]; exact h1, h2⟩
theorem trs_below {w w1 : World} {base : Nat} {v : Value} {l : List Nat} (h : Trs w base v l) (hb : Below w.heap.size w w1) : Trs w1 base v l :=
  ⟨row_below h.own hb, fun x hx => ⟨(h.pts x hx).1, tri_below (h.pts x hx).2 hb⟩⟩
theorem tri_new (w : World) (a b c : ByteArray) (h : Digs c 1048576) : Tri (w.alloc (.cells #[.string a, .string b, .string c] 9)) w.heap.size := ⟨a, b, c, heap_alloc_new _ _, h⟩
section
variable {ops : Array Oper} {o : Oper} {a : Act} {W : World} {K : Act → World → Prop} {Q : Exit → Act → World → Prop} {E : Prop}
/-- append of one row of three texts, in a region that draws. -/
theorem step_tri (base : Nat) (hgd : o.guard = none) (sl x : Operand)
    (ho : o.op = .call { callee := .builtin .append, args := #[sl, x], argTypes := #[27, 27] })
    (v : Value) (l : List Nat) (g g2 : Nat) (HO : Trs W base v l) (hs : a.eval sl = v) (hx : a.eval x = .slice (some ⟨g2, 0, none⟩) 1 1) (hc : W.cell? ⟨g2, 0, none⟩ = some (.slice (some ⟨g, 0, none⟩) 3 3)) (hp : Tri W g) (hgb : base ≤ g)
    (hbase : base ≤ W.heap.size) (hl : l.length ≤ 1099511627776)
    (h : ∀ v1 w1, Trs w1 base v1 (l ++ [g]) → W.grownBy w1 v.ownBlock → K (a.put o.dst v1) w1) :
    if Region.wanted o (yielded ops a.tmps) = true then Oper.wp Tryz.prog o a W K Q else E := by
  obtain ⟨i, hi, hz⟩ := Option.map_eq_some_iff.1 info26
  injection hz with z1 z2
  injection z2 with z2 z3
  have hw : Region.wanted o (yielded ops a.tmps) = true := by simp [Region.wanted, hgd]
  rw [if_pos hw]
  obtain ⟨v', w', hr, h2, h3, h4, h5⟩ := run_append_own_at (P := Tryz.prog) W base 27 o.type 26 i (.slice none 0 0) 1 24 und27 hi z1 z2 z3 rfl (by omega) v l.length _ HO.own ⟨g2, 0, none⟩ 1 1 [.slice (some ⟨g, 0, none⟩) 3 3] (by simp)
    (fun j u hj => by
      have hj2 : j < 1 := by
        have := (List.getElem?_eq_some_iff.1 hj).1
        simpa using this
      obtain rfl : j = 0 := by omega
      have ha : (⟨g2, 0, none⟩ : Addr).add 0 = ⟨g2, 0, none⟩ := rfl
      rw [ha, hc]
      simpa using hj) (by simp [Value.oneCell']) (by unfold maxLen; omega) (by omega) hbase
  unfold Oper.wp execOp
  simp only [ho, resolve, invoke, builtin, Sem.run_bind, Sem.run_pure, Result.andThen_ok, List.map_toArray, List.map_cons, List.map_nil, hs, hx, hr]
  have keep : ∀ (b : Nat) (c : Array Value), W.heap[b]? = some (Obj.cells c 9) → w'.heap[b]? = some (Obj.cells c 9) := fun b c hb => by
    rw [h3.block b (heap_get_lt hb) (fun e => ?_)]
    · exact hb
    · have := own_row_type HO.own b c 9 _ e.symm hb
      cases this
  refine h v' w' ⟨by simpa using h2, fun y hy => ?_⟩ h3
  rw [List.mem_append, List.mem_singleton] at hy
  have kt : ∀ z, Tri W z → Tri w' z := fun z ⟨a, b, c, h1, h2⟩ => ⟨a, b, c, keep _ _ h1, h2⟩
  rcases hy with hy | rfl
  · exact ⟨(HO.pts y hy).1, kt _ (HO.pts y hy).2⟩
  · exact ⟨hgb, kt _ hp⟩
end
theorem below_trs {w W w1 : World} {base : Nat} {v : Value} {l : List Nat} (h : Below base w W) (hB : base ≤ W.heap.size) (HO : Trs W base v l) (hg : W.grownBy w1 v.ownBlock) : Below base w w1 :=
  h.trans ⟨hg.os, hg.tape, hg.output, hg.size, fun k hk => hg.block k (by omega) (fun e => by have := (World.ownsRow.lt HO.own k e.symm).1; omega)⟩
/-- The words of the suffixes. -/
def sufL : List ByteArray := [⟨#[97, 108, 112, 104, 97]⟩, ⟨#[98, 101, 116, 97]⟩, ⟨#[112, 114, 101]⟩, ⟨#[114, 99]⟩, ⟨#[99, 118, 115]⟩, ⟨#[115, 118, 110]⟩, ⟨#[103, 105, 116]⟩, ⟨#[104, 103]⟩, ⟨#[112]⟩]
theorem suf_at (W : World) : WordsAt (W.alloc (.cells #[.string ⟨#[97, 108, 112, 104, 97]⟩, .string ⟨#[98, 101, 116, 97]⟩, .string ⟨#[112, 114, 101]⟩, .string ⟨#[114, 99]⟩, .string ⟨#[99, 118, 115]⟩, .string ⟨#[115, 118, 110]⟩, .string ⟨#[103, 105, 116]⟩, .string ⟨#[104, 103]⟩, .string ⟨#[112]⟩] 9)) W.heap.size sufL := by
  intro j hj
  have h := heap_alloc_new W (.cells #[.string ⟨#[97, 108, 112, 104, 97]⟩, .string ⟨#[98, 101, 116, 97]⟩, .string ⟨#[112, 114, 101]⟩, .string ⟨#[114, 99]⟩, .string ⟨#[99, 118, 115]⟩, .string ⟨#[115, 118, 110]⟩, .string ⟨#[103, 105, 116]⟩, .string ⟨#[104, 103]⟩, .string ⟨#[112]⟩] 9)
  simp only [World.cell?, h]
  have : j < 9 := hj
  rcases j with _ | _ | _ | _ | _ | _ | _ | _ | _ | j
  all_goals first | rfl | (exfalso; omega)
theorem suf_len (x : ByteArray) (h : x ∈ sufL) : x.size ≤ 5 := by
  simp only [sufL, List.mem_cons, List.mem_nil_iff, or_false] at h
  rcases h with rfl | rfl | rfl | rfl | rfl | rfl | rfl | rfl | rfl <;> decide
/-- What zzAlpineSuffixes answers. -/
def SufPost (w : World) (n : Nat) (e : Ending) (w' : World) : Prop := ∃ A c l, e = .returned (.slice A (List.length l) c) ∧ Trs w' w.heap.size (.slice A l.length c) l ∧ l.length ≤ n ∧ Below w.heap.size w w'
theorem trs_len {w : World} {base : Nat} {v : Value} {l : List Nat} (h : Trs w base v l) : ∃ A c, v = .slice A l.length c := by
  obtain ⟨p, c, e⟩ := row_slice h.own
  exact ⟨p, c, e⟩
theorem zzHas_at (s p : ByteArray) (i : Nat) (I : Int) (hI : I = (i : Int)) (w : World) (hi : i ≤ s.size) (hs : s.size ≤ 4294967296) (hp : p.size ≤ 4294967296) : Calls Tryz.prog 111 #[.string s, .int .i64 I, .string p] w (HasPost w i p.size s.size) := by
  subst hI
  exact zzHas_any s p i w hi hs hp
theorem zzDigits_at (s : ByteArray) (i : Nat) (I : Int) (hI : I = (i : Int)) (w : World) (hi : i ≤ s.size) (hs : s.size ≤ 4294967296) : Calls Tryz.prog 96 #[.string s, .int .i64 I] w (DigPost w s i) := by
  subst hI
  exact zzDigits_to s i w hi hs
set_option maxRecDepth 100000 in
set_option maxHeartbeats 4000000 in
theorem zzSuffixes_any (s : ByteArray) (w : World) (hs : s.size ≤ 1048576) : Calls Tryz.prog 71 #[.string s] w (SufPost w s.size) := by
  go_enter Tryz.func71, Tryz.ntmps71
  go_wp2_with fail
  go_loopw [3, 4] (fun o v wr => ∃ (k : Nat) (l : List Nat), v = .int .i64 k ∧ k ≤ s.size ∧ l.length ≤ k ∧ Hid (Trs wr w.heap.size o l) ∧ Hid (Below w.heap.size w wr)) (fun _ v _ => s.size - (intOf v).toNat)
  case atStart => exact ⟨0, [], rfl, Nat.zero_le _, Nat.le_refl _, trs_nil _ _, Below.refl _ _⟩
  case round =>
    obtain ⟨k, l, rfl, hk, hl, HT, HW⟩ := hrel
    have hww := HW.out.size
    by_cases hlt : k < s.size
    · cases hne : (((s[k]'hlt).toNat : Int) != 95)
      case true =>
        go_wp2_with fail
        go_roundw
        case rel => exact ⟨k + 1, l, by first | rfl | go_num, by omega, by omega, HT, HW⟩
        case measure => simp only [intOf]; omega
      case false =>
        go_wp2_with fail
        have HSU := Lib.hid (suf_at wr)
        have HT1 := Lib.hid (trs_below HT.out ((Below.refl wr.heap.size wr).alloc (Nat.le_refl _) (.cells #[.string ⟨#[97, 108, 112, 104, 97]⟩, .string ⟨#[98, 101, 116, 97]⟩, .string ⟨#[112, 114, 101]⟩, .string ⟨#[114, 99]⟩, .string ⟨#[99, 118, 115]⟩, .string ⟨#[115, 118, 110]⟩, .string ⟨#[103, 105, 116]⟩, .string ⟨#[104, 103]⟩, .string ⟨#[112]⟩] 9)))
        have HW1 := Lib.hid (HW.out.alloc hww (.cells #[.string ⟨#[97, 108, 112, 104, 97]⟩, .string ⟨#[98, 101, 116, 97]⟩, .string ⟨#[112, 114, 101]⟩, .string ⟨#[114, 99]⟩, .string ⟨#[99, 118, 115]⟩, .string ⟨#[115, 118, 110]⟩, .string ⟨#[103, 105, 116]⟩, .string ⟨#[104, 103]⟩, .string ⟨#[112]⟩] 9))
        have hw1 := HW1.out.size
        have HI := Lib.hid hlt
        clear hne
        generalize wr.alloc (.cells #[.string ⟨#[97, 108, 112, 104, 97]⟩, .string ⟨#[98, 101, 116, 97]⟩, .string ⟨#[112, 114, 101]⟩, .string ⟨#[114, 99]⟩, .string ⟨#[99, 118, 115]⟩, .string ⟨#[115, 118, 110]⟩, .string ⟨#[103, 105, 116]⟩, .string ⟨#[104, 103]⟩, .string ⟨#[112]⟩] 9) = W1 at HSU HT1 HW1 hw1 ⊢
        have hG1 : wr.heap.size < W1.heap.size := by
          have := HSU.out 0 (by decide)
          simp only [World.cell?] at this
          cases hq : W1.heap[wr.heap.size]? with
          | none => rw [hq] at this; cases this
          | some q => exact heap_get_lt hq
        go_loopw [5, 22] (fun v p wq => ∃ (j : Nat) (x : ByteArray), p = .int .i64 j ∧ v = .string x ∧ j ≤ 9 ∧ k + 1 + x.size ≤ s.size ∧ Hid (x = mk [] ∨ x ∈ sufL) ∧ wq = W1) (fun _ p _ => 9 - (intOf p).toNat)
        case atStart => exact ⟨0, mk [], rfl, rfl, by omega, by rw [mk_size]; simp; omega, .inl rfl, rfl⟩
        case round =>
          obtain ⟨j, x, rfl, rfl, hj, hjx, HX, rfl⟩ := hrel
          by_cases hj9 : j < 9
          · have hck := HSU.out j hj9
            have HM : Hid ((sufL[j]'hj9) ∈ sufL) := List.getElem_mem _
            have hz := suf_len _ HM.out
            generalize (sufL[j]'hj9) = y at hck HM hz
            rcases ise_dec x with ⟨hse, hsb⟩ | ⟨hse, hsb⟩
            · have hee := eq_empty hsb
              clear hse hsb
              go_wp2_with (go_at_call 111; refine (zzHas_at s y (k + 1) _ (by omega) _ (by omega) (by omega) (by omega)).mono ?_; rintro e w' ⟨b, rfl, hb, rfl⟩; have HB := Lib.hid hb; clear hb; cases b)
              · go_roundw
                case rel => exact ⟨j + 1, x, by go_num, rfl, by omega, hjx, HX, trivial⟩
                case measure => simp only [intOf]; omega
              · have hb2 : k + 1 + y.size ≤ s.size := by first | exact HB.out rfl | exact HB.out trivial
                go_roundw
                case rel => exact ⟨j + 1, y, by go_num, rfl, by omega, hb2, .inr HM.out, trivial⟩
                case measure => simp only [intOf]; omega
            · have hee := ne_empty hsb
              clear hse hsb
              go_wp2_with fail
              go_roundw
              case rel => exact ⟨j + 1, x, by go_num, rfl, by omega, hjx, HX, trivial⟩
              case measure => simp only [intOf]; omega
          · rcases ise_dec x with ⟨hse, hsb⟩ | ⟨hse, hsb⟩
            · have hee := eq_empty hsb
              clear hse hsb
              go_wp2_with fail
              go_roundw
              case rel => exact ⟨k + 1, l, by first | rfl | go_num, by omega, by omega, HT1, HW1⟩
              case measure => simp only [intOf]; omega
            · have hee := ne_empty hsb
              clear hse hsb
              have e1 : IntKind.i64.wrap ((k : Int) + 1 + (x.size : Int)) = (k : Int) + 1 + (x.size : Int) := IntWalk.i64_in _ (by omega)
              go_upto_region 17 with (go_at_call 96; refine (zzDigits_at s (k + 1 + x.size) _ (by omega) _ hjx (by omega)).mono ?_; rintro e w' ⟨j5, rfl, hle, hen, hdg, rfl⟩; have HDG := Lib.hid hdg; clear hdg)
              have hs1 := fun W => slice_ss s k j5 (by omega) hen (k : Int) (j5 : Int) rfl rfl W
              have hs2 := fun W => slice_ss s (k + 1 + x.size) j5 hle hen ((k : Int) + 1 + (x.size : Int)) (j5 : Int) (by omega) rfl W
              obtain ⟨T, hT⟩ : ∃ T, T = s.extract k j5 := ⟨_, rfl⟩
              obtain ⟨D, hD⟩ : ∃ D, D = s.extract (k + 1 + x.size) j5 := ⟨_, rfl⟩
              rw [← hT] at hs1
              rw [← hD] at hs2 HDG
              have HDD : Hid (Digs D 1048576) := ⟨HDG.out.dig, by have := HDG.out.size; omega⟩
              clear hT hD HDG
              obtain ⟨W2, hW2⟩ : ∃ W2, W2 = wr.drew.alloc (.cells #[.string T, .string x, .string D] 9) := ⟨_, rfl⟩
              obtain ⟨W3, hW3⟩ : ∃ W3, W3 = W2.alloc (.cells #[.slice (some ⟨wr.heap.size, 0, none⟩) 3 3] 26) := ⟨_, rfl⟩
              have hBd2 : Below wr.heap.size wr W2 := by rw [hW2]; exact ((Below.refl _ _).drew).alloc (by simp) _
              have hz2 : W2.heap.size = wr.heap.size + 1 := by rw [hW2]; simp
              have hBd3 : Below wr.heap.size wr W3 := by rw [hW3]; exact hBd2.alloc (by omega) _
              have hz3 : W3.heap.size = wr.heap.size + 2 := by rw [hW3]; simp [hz2]
              have HT3 := Lib.hid (trs_below HT1.out hBd3)
              have ht3 : Tri W3 wr.heap.size := by
                have h0 : Tri W2 wr.heap.size := by rw [hW2]; exact tri_new wr.drew T x D HDD.out
                rw [hW3]
                exact tri_below h0 ((Below.refl _ _).alloc (Nat.le_refl _) _)
              have HTR := Lib.hid ht3
              have hc3 : W3.cell? ⟨wr.heap.size + 1, 0, none⟩ = some (.slice (some ⟨wr.heap.size, 0, none⟩) 3 3) := by
                rw [hW3, ← hz2]
                simp only [World.cell?, heap_alloc_new]
                rfl
              have HC3 := Lib.hid hc3
              have HB3 := Lib.hid (HW1.out.trans (hBd3.mono hw1))
              clear hBd2 hBd3 ht3 hc3
              have hW3' : (wr.drew.alloc (.cells #[.string T, .string x, .string D] 9)).alloc (.cells #[.slice (some ⟨wr.heap.size, 0, none⟩) 3 3] 26) = W3 := by rw [hW3, hW2]
              rw [hW2] at hW3
              subst hW3
              clear hW3' hW2 hz2
              go_region_law (refine step_tri (base := w.heap.size) rfl (.tmp 49) (.tmp 60) rfl _ l wr.heap.size (wr.heap.size + 1) HT3.out (by first | (simp [Act.eval]; done) | simp [Act.eval, Act.put]) (by first | (simp [Act.eval]; done) | simp [Act.eval, Act.put]) HC3.out HTR.out hw1 (by simp; omega) (by omega) ?_; intro v6 w6 ht6 hg6)
              have HW6 := Lib.hid (below_trs HB3.out (by simp; omega) HT3.out hg6)
              have HT6 := Lib.hid ht6
              clear ht6 hg6 hs1 hs2
              go_wp2_with fail
              go_roundw
              case rel => exact ⟨j5, l ++ [wr.heap.size], rfl, hen, by simp; omega, HT6, HW6⟩
              case measure => simp only [intOf]; omega
    · obtain ⟨A, c, rfl⟩ := trs_len HT.out
      go_wp2_with fail
      go_ret
      exact ⟨A, c, l, rfl, HT.out, by omega, HW.out⟩
end Go.Proofs.YtoofphhfealcaaaGreatDoor

namespace Go.Proofs.YtoofphhfealcaaaGreatDoor
open Go.RowKit

/-- The words that weigh. -/
def wtL : List ByteArray := [⟨#[97, 108, 112, 104, 97]⟩, ⟨#[98, 101, 116, 97]⟩, ⟨#[112, 114, 101]⟩, ⟨#[114, 99]⟩, ⟨#[]⟩, ⟨#[99, 118, 115]⟩, ⟨#[115, 118, 110]⟩, ⟨#[103, 105, 116]⟩, ⟨#[104, 103]⟩]
/-- The world behind the words. -/
def wtW (w : World) : World := w.alloc (.cells #[.string ⟨#[97, 108, 112, 104, 97]⟩, .string ⟨#[98, 101, 116, 97]⟩, .string ⟨#[112, 114, 101]⟩, .string ⟨#[114, 99]⟩, .string ⟨#[]⟩, .string ⟨#[99, 118, 115]⟩, .string ⟨#[115, 118, 110]⟩, .string ⟨#[103, 105, 116]⟩, .string ⟨#[104, 103]⟩] 9)
theorem wt_at (W : World) : WordsAt (wtW W) W.heap.size wtL := by
  intro j hj
  have h := heap_alloc_new W (.cells #[.string ⟨#[97, 108, 112, 104, 97]⟩, .string ⟨#[98, 101, 116, 97]⟩, .string ⟨#[112, 114, 101]⟩, .string ⟨#[114, 99]⟩, .string ⟨#[]⟩, .string ⟨#[99, 118, 115]⟩, .string ⟨#[115, 118, 110]⟩, .string ⟨#[103, 105, 116]⟩, .string ⟨#[104, 103]⟩] 9)
  simp only [World.cell?, wtW, h]
  have : j < 9 := hj
  rcases j with _ | _ | _ | _ | _ | _ | _ | _ | _ | j
  all_goals first | rfl | (exfalso; omega)
/-- A weight. -/
def WtPost (w : World) (e : Ending) (w' : World) : Prop := ∃ n : Nat, e = .returned (.int .i64 n) ∧ w' = wtW w
set_option maxRecDepth 100000 in
set_option maxHeartbeats 4000000 in
theorem weight_any (x : ByteArray) (w : World) : Calls Tryz.prog 72 #[.string x] w (WtPost w) := by
  go_enter Tryz.func72, Tryz.ntmps72
  go_wp2_with fail
  have HSU := Lib.hid (wt_at w)
  have hW1 : w.alloc (.cells #[.string ⟨#[97, 108, 112, 104, 97]⟩, .string ⟨#[98, 101, 116, 97]⟩, .string ⟨#[112, 114, 101]⟩, .string ⟨#[114, 99]⟩, .string ⟨#[]⟩, .string ⟨#[99, 118, 115]⟩, .string ⟨#[115, 118, 110]⟩, .string ⟨#[103, 105, 116]⟩, .string ⟨#[104, 103]⟩] 9) = wtW w := rfl
  rw [hW1] at *
  clear hW1
  go_loopw [9] (fun p wq => ∃ (j : Nat), p = .int .i64 j ∧ j ≤ 9 ∧ wq = wtW w) (fun p _ => 9 - (intOf p).toNat)
  case atStart => exact ⟨0, rfl, by omega, rfl⟩
  case round =>
    obtain ⟨j, rfl, hj, rfl⟩ := hrel
    by_cases hj9 : j < 9
    · have hck := HSU.out j hj9
      generalize (wtL[j]'hj9) = y at hck
      cases hxy : (x.toList == y.toList) <;> have HXY := Lib.hid hxy
      · go_wp2_with fail
        go_roundw
        case rel => exact ⟨j + 1, by go_num, by omega, trivial⟩
        case measure => simp only [intOf]; omega
      · go_wp2_with fail
        go_ret
        exact ⟨j, rfl, rfl⟩
    · go_wp2_with fail
      go_ret
      exact ⟨9, rfl, rfl⟩
end Go.Proofs.YtoofphhfealcaaaGreatDoor

namespace Go.Proofs.YtoofphhfealcaaaGreatDoor
open Go.RowKit

theorem info144 : (Tryz.prog.info? 144).map (fun i => (i.zero, i.size, i.bytes)) = some (some (.agg #[.int .i64 0, .pointer none]), 2, 16) := by kernel_rfl
theorem und42 : Tryz.prog.underlying 42 = some (.slice 144) := by kernel_rfl
theorem grown_setCell (w : World) (b o : Nat) (v : Value) : w.grownBy (w.setCell ⟨b, o, none⟩ v) (some b) := grown_setCells b [v] o w
theorem trs_grown {W w1 : World} {base : Nat} {v : Value} {l : List Nat} {row : Option Nat} (h : Trs W base v l) (hg : W.grownBy w1 row) (hr : ∀ k cs e f, row = some k → W.heap[k]? = some (.cells cs e f) → e ≠ 26 ∧ e ≠ 9) : Trs w1 base v l := by
  refine ⟨h.own.kept hg ?_, fun x hx => ⟨(h.pts x hx).1, ?_⟩⟩
  · rcases h.own.2 with ⟨rfl, _⟩ | ⟨g, cap, cur, rfl, _, hh, _⟩
    · exact .inl rfl
    · refine .inr fun e => (hr g _ _ _ e.symm hh).1 rfl
  · obtain ⟨a, b, c, h1, h2⟩ := (h.pts x hx).2
    refine ⟨a, b, c, ?_, h2⟩
    rw [hg.block x (heap_get_lt h1) (fun e => (hr x _ _ _ e.symm h1).2 rfl)]
    exact h1
theorem digs_0 : Digs ⟨#[48]⟩ 1048576 := ⟨fun c hc => by
  have : bs ⟨#[48]⟩ = [48] := rfl
  rw [this, List.mem_singleton] at hc
  subst hc
  rfl, by decide⟩
theorem tri_set {W : World} {x : Nat} {a b c : Value} (h : W.heap[x]? = some (.cells #[a, b, c] 9)) (v : Value) : (W.setCell ⟨x, 2, none⟩ v).heap[x]? = some (.cells #[a, b, v] 9) := by
  have := heap_setCell_at W x 2 v _ _ _ h
  simpa using this
theorem trs_set {W : World} {base x : Nat} {v : Value} {l : List Nat} {a b c : ByteArray} (h : Trs W base v l) (hx : W.heap[x]? = some (.cells #[.string a, .string b, .string c] 9)) : Trs (W.setCell ⟨x, 2, none⟩ (.string ⟨#[48]⟩)) base v l := by
  have hg := grown_setCell W x 2 (.string ⟨#[48]⟩)
  refine ⟨h.own.kept hg ?_, fun y hy => ⟨(h.pts y hy).1, ?_⟩⟩
  · rcases h.own.2 with ⟨rfl, _⟩ | ⟨g, cap, cur, rfl, _, hh, _⟩
    · exact .inl rfl
    · refine .inr fun e => ?_
      have e2 : g = x := by simpa [Value.ownBlock] using e
      subst e2
      rw [hx] at hh
      cases hh
  · by_cases hyx : y = x
    · subst hyx
      exact ⟨a, b, _, tri_set hx _, digs_0⟩
    · obtain ⟨a', b', c', h1, h2⟩ := (h.pts y hy).2
      refine ⟨a', b', c', ?_, h2⟩
      rw [hg.block y (heap_get_lt h1) (by simpa using hyx)]
      exact h1
theorem trs_cell {w : World} {base : Nat} {v : Value} {l : List Nat} (h : Trs w base v l) (hl : 0 < l.length) : ∃ g c, v = .slice (some ⟨g, 0, none⟩) l.length c ∧ g < w.heap.size ∧ ∀ j (hj : j < l.length), w.cell? ⟨g, j, none⟩ = some (.slice (some ⟨l[j], 0, none⟩) 3 3) := by
  have h' := h.own
  rcases h.own.2 with ⟨rfl, h0⟩ | ⟨g, cap, cur, rfl, hb, hh, _⟩
  · omega
  · refine ⟨g, cap, rfl, heap_get_lt hh, fun j hj => ?_⟩
    have := World.ownsRow.cellAt h' j (by simpa using hj)
    rw [this]
    simp [hj]
theorem tri_cells {W : World} {g : Nat} {x y z : Value} {T : TypeId} (h : W.heap[g]? = some (.cells #[x, y, z] T)) :
    W.cell? ⟨g, 0, none⟩ = some x ∧ W.cell? ⟨g, 1, none⟩ = some y ∧ W.cell? ⟨g, 2, none⟩ = some z ∧ W.frozen? ⟨g, 2, none⟩ = false := by
  refine ⟨?_, ?_, ?_, ?_⟩ <;> simp [World.cell?, World.frozen?, h]
theorem kp_base {l : List Nat} {w wr w6 : World} (h : Kp l w wr) (hb : Below w.heap.size wr w6) : Kp l w w6 :=
  ⟨hb.os.trans h.os, hb.tape.trans h.tape, hb.output.trans h.output, Nat.le_trans h.size hb.size, fun k hk hn => (hb.block k hk).trans (h.block k hk hn)⟩
section
variable {ops : Array Oper} {o : Oper} {a : Act} {W : World} {K : Act → World → Prop} {Q : Exit → Act → World → Prop} {E : Prop}
/-- append of one struct of two cells, in a region that draws. -/
theorem step_suf (base : Nat) (hgd : o.guard = none) (sl x : Operand)
    (ho : o.op = .call { callee := .builtin .append, args := #[sl, x], argTypes := #[42, 42] })
    (v : Value) (n : Nat) (xs : List Value) (g2 : Nat) (y1 y2 : Value) (HO : W.ownsRow base 144 2 v n xs) (hs : a.eval sl = v) (hx : a.eval x = .slice (some ⟨g2, 0, none⟩) 1 1) (hc : W.heap[g2]? = some (.cells #[y1, y2] 144)) (h1 : y1.oneCell' = true) (h2 : y2.oneCell' = true)
    (hbase : base ≤ W.heap.size) (hl : n ≤ 1099511627776)
    (h : ∀ v1 w1, w1.ownsRow base 144 2 v1 (n + 1) (xs ++ [y1, y2]) → W.grownBy w1 v.ownBlock → K (a.put o.dst v1) w1) :
    if Region.wanted o (yielded ops a.tmps) = true then Oper.wp Tryz.prog o a W K Q else E := by
  obtain ⟨i, hi, hzz⟩ := Option.map_eq_some_iff.1 info144
  simp only [Prod.mk.injEq] at hzz
  obtain ⟨z1, z2, z3⟩ := hzz
  exact step_append_lies W hgd sl x 42 ho base 144 i _ 2 16 und42 hi z1 z2 z3 rfl (by omega) v n xs hs HO ⟨g2, 0, none⟩ 1 1 [y1, y2] hx rfl
    (World.news_of_block (cs := #[y1, y2]) (t := 144) (fr := (0, 0)) hc) (by intro u hu; simp only [List.mem_cons, List.mem_nil_iff, or_false] at hu; rcases hu with rfl | rfl <;> assumption) (by omega) (by unfold maxLen; omega) (by omega) hbase _ rfl
    fun g cap w' ha hb _ _ => h _ _ ha hb
end
/-- What the loop over the suffixes has in hand. -/
structure Sk (w wr : World) (b k : Nat) (v : Value) (l : List Nat) : Prop where
  ex : ∃ o iv rm p n c lt sv hs q xs, AlpAt wr b o iv rm (.slice p n c) lt sv hs (.pointer q) ∧ wr.ownsRow w.heap.size 144 2 sv k xs
  tr : Trs wr w.heap.size v l
  kp : Kp [b] w wr
/-- A version of which the suffixes are none yet. -/
def AlpN (W : World) (b : Nat) : Prop := ∃ o iv rm p n c lt hs q, AlpAt W b o iv rm (.slice p n c) lt (.slice none 0 0) hs (.pointer q)
theorem alpN_any {W : World} {b : Nat} (h : AlpN W b) : AlpAny W b := by
  obtain ⟨o, iv, rm, p, n, c, lt, hs, q, h⟩ := h
  exact ⟨_, _, _, _, _, _, _, _, _, _, _, _, h⟩
theorem alp_grown {W W1 : World} {b : Nat} {o : ByteArray} {iv : Bool} {rm : ByteArray} {cv : Value} {lt : ByteArray} {sv : Value} {hs : ByteArray} {bc : Value} (h : AlpAt W b o iv rm cv lt sv hs bc) (e : W1.heap[b]? = W.heap[b]?) : AlpAt W1 b o iv rm cv lt sv hs bc := by
  unfold AlpAt at *
  rw [e]
  exact h
theorem row_set9 {W : World} {base x : Nat} {sv : Value} {k : Nat} {xs : List Value} {a b c v : Value} (h : W.ownsRow base 144 2 sv k xs) (hx : W.heap[x]? = some (.cells #[a, b, c] 9)) : (W.setCell ⟨x, 2, none⟩ v).ownsRow base 144 2 sv k xs := by
  refine h.kept (grown_setCell W x 2 v) ?_
  rcases h.2 with ⟨rfl, _⟩ | ⟨g, cap, cur, rfl, _, hh, _⟩
  · exact .inl rfl
  · refine .inr fun e => ?_
    have e2 : g = x := by simpa [Value.ownBlock] using e
    subst e2
    rw [hx] at hh
    cases hh
/-- What stands when the round comes to its number. -/
structure Sr (w W : World) (b k x : Nat) (v : Value) (l : List Nat) : Prop where
  ex : ∃ o iv rm p n c lt sv hs q xs, AlpAt W b o iv rm (.slice p n c) lt sv hs (.pointer q) ∧ W.ownsRow w.heap.size 144 2 sv k xs
  tr : Trs W w.heap.size v l
  kp : Kp [b] w W
  num : ∃ t u d, W.heap[x]? = some (.cells #[.string t, .string u, .string d] 9) ∧ Digs d 1048576 ∧ bs d ≠ []
set_option maxRecDepth 100000 in
set_option maxHeartbeats 8000000 in
theorem alpSuffixes_all (b : Nat) (s : ByteArray) (w : World) (a ae ai au : Addr) (hG : Gt w a ae ai au) (hb20 : 20 ≤ b) (hs : s.size ≤ 1048576) (hA : AlpN w b) :
    Calls Tryz.prog 42 #[.pointer (some ⟨b, 0, none⟩), .string s] w (StepPost w b s) := by
  obtain ⟨o, iv, rm, p, n, c, lt, hh, q, hA⟩ := hA
  have hbw : b < w.heap.size := heap_get_lt hA
  have HA := Lib.hid hA
  have HG := Lib.hid hG
  clear hA hG
  go_enter Tryz.func42, Tryz.ntmps42
  go_wp2_with (go_at_call 71; refine (zzSuffixes_any s _ hs).mono ?_; rintro e w1 ⟨A, cp, l, rfl, hT, hl, hB⟩; have HT := Lib.hid hT; have HB := Lib.hid hB; have hw1 := hB.size; clear hT hB)
  go_loopw [1, 13] (fun r i wr => ∃ (k : Nat) (t : ByteArray), i = .int .i64 k ∧ r = .string t ∧ k ≤ l.length ∧ t.size ≤ s.size ∧ Hid (Sk w wr b k (.slice A l.length cp) l)) (fun _ i _ => l.length - (intOf i).toNat)
  case atStart => exact ⟨0, s, rfl, rfl, Nat.zero_le _, Nat.le_refl _, ⟨⟨_, _, _, _, _, _, _, _, _, _, _, alp_below HA.out HB.out hbw, World.ownsRow_nil _ _ _ _⟩, HT.out, kp_sub HB.out⟩⟩
  case round =>
    obtain ⟨k, r, rfl, rfl, hk, hr, HK⟩ := hrel
    by_cases hlt : k < l.length
    · obtain ⟨g, c2, he, hg2, hcs⟩ := trs_cell HK.out.tr (by omega)
      injection he with he1 he2 he3
      subst he1
      subst he3
      have hck := hcs k hlt
      have HX : Hid ((l[k]'hlt) ∈ l) := List.getElem_mem _
      generalize (l[k]'hlt) = x at hck HX
      obtain ⟨t, u, d, hx, hd⟩ := (HK.out.tr.pts x HX.out).2
      have hxb := (HK.out.tr.pts x HX.out).1
      obtain ⟨z0, z1, z2, z3⟩ := tri_cells hx
      have HXX := Lib.hid hx
      have HD := Lib.hid hd
      clear hcs hx hd he2
      rcases ise_dec d with ⟨hse, hsb⟩ | ⟨hse, hsb⟩
      · have hee := eq_empty hsb
        clear hse hsb
        go_upto_region 6 with fail
        have HS : Hid (Sr w (wr.setCell ⟨x, 2, none⟩ (.string ⟨#[48]⟩)) b k x (.slice (some ⟨g, 0, none⟩) l.length cp) l) := by
          obtain ⟨o, iv, rm, p, n, c, lt, sv, hs', q, xs, hA, hown⟩ := HK.out.ex
          exact ⟨⟨_, _, _, _, _, _, _, _, _, _, _, alp_grown hA ((grown_setCell wr x 2 _).block b (heap_get_lt hA) (by simp; omega)), row_set9 hown HXX.out⟩, trs_set HK.out.tr HXX.out, kp_base HK.out.kp ((Below.refl _ _).setCell hxb _), ⟨_, _, _, tri_set HXX.out _, digs_0, by simp [bs]⟩⟩
        clear HXX HD hck z0 z1 z2 z3 hee
        have hww := HS.out.kp.size
        generalize (wr.setCell ⟨x, 2, none⟩ (.string ⟨#[48]⟩)) = W1 at HS hww ⊢
        obtain ⟨o, iv, rm, p, n, c, lt, sv, hs', q, xs, hA1, hown1⟩ := HS.out.ex
        obtain ⟨t, u, d, hx, hd, hd0⟩ := HS.out.num
        obtain ⟨p5, c5, rfl⟩ := row_slice hown1
        obtain ⟨z0, z1, z2, z3⟩ := tri_cells hx
        have hx1 := heap_get_lt hx
        have HXX := Lib.hid hx
        have HA1 := Lib.hid hA1
        have HO1 := Lib.hid hown1
        have HD := Lib.hid hd
        have HN := Lib.hid (isNum_of_digs hd hd0)
        have hdz := hd.size
        have HGW : Hid (Gl W1 a ae ai au) := (gt_kp HG.out HS.out.kp (by simp; omega)).toGl
        clear hA1 hown1 hx hd hd0
        go_upto_region 9 with (go_at_call 52; refine (conv_yes d _ a ae ai au HGW.out (by omega) HN.out).mono ?_; rintro e w3 ⟨rfl, _, hB3⟩; have HB3 := Lib.hid hB3; clear hB3)
        have hw3 := HB3.out.size
        have HA3 := Lib.hid (alp_below HA1.out HB3.out (by omega))
        have HO3 := Lib.hid (row_below HO1.out HB3.out)
        have HX3 : Hid (w3.heap[x]? = some (.cells #[.string t, .string u, .string d] 9)) := by
          show _ = _
          rw [HB3.out.block _ hx1]
          exact HXX.out
        clear z0 z1 z2 z3
        obtain ⟨z0, z1, z2, z3⟩ := tri_cells HX3.out
        obtain ⟨⟨_, _, _, _, _, q5, _, _⟩, f⟩ := alp_cells HA3.out
        have g5 := f 5
        clear f
        have hb3 : b < w3.heap.size := by omega
        have hx3 : x < w3.heap.size := by omega
        have q5w : (wtW w3.drew).cell? ⟨b, 5, none⟩ = some (.slice p5 k c5) := by unfold wtW; rw [World.cell?_alloc_old _ _ _ (by show b ≠ _; simp; omega)]; exact q5
        have q5v : ∀ nn : Nat, ((wtW w3.drew).alloc (.cells #[.int .i64 (nn : Nat), .pointer (some ⟨W1.heap.size, 0, none⟩)] 144)).cell? ⟨b, 5, none⟩ = some (.slice p5 k c5) := fun nn => by rw [World.cell?_alloc_old _ _ _ (by show b ≠ _; simp [wtW]; omega)]; exact q5w
        have hB5 : ∀ nn : Nat, Below w3.heap.size w3 ((wtW w3.drew).alloc (.cells #[.int .i64 (nn : Nat), .pointer (some ⟨W1.heap.size, 0, none⟩)] 144)) := fun nn => (((Below.refl _ _).drew).alloc (by simp) _).alloc (by simp) _
        have HO5 := fun nn : Nat => row_below HO3.out (hB5 nn)
        have hN5 : ∀ nn : Nat, ((wtW w3.drew).alloc (.cells #[.int .i64 (nn : Nat), .pointer (some ⟨W1.heap.size, 0, none⟩)] 144)).heap[w3.heap.size + 1]? = some (.cells #[.int .i64 (nn : Nat), .pointer (some ⟨W1.heap.size, 0, none⟩)] 144) := fun nn => by
          have h1 : w3.heap.size + 1 = (wtW w3.drew).heap.size := by simp [wtW]
          rw [h1]
          exact heap_alloc_new _ _
        have hz5 : ∀ nn : Nat, ((wtW w3.drew).alloc (.cells #[.int .i64 (nn : Nat), .pointer (some ⟨W1.heap.size, 0, none⟩)] 144)).heap.size = w3.heap.size + 2 := fun nn => by simp [wtW]
        have HB5 := Lib.hid hB5
        have HO5 := Lib.hid HO5
        have HN5 := Lib.hid hN5
        have HZ5 := Lib.hid hz5
        have hbase : w.heap.size ≤ w3.heap.size := by omega
        clear hB5 hN5 hz5
        go_region_law (first
          | (refine step_suf (base := w.heap.size) rfl (.tmp 37) (.tmp 44) rfl _ k xs (w3.heap.size + 1) (.int .i64 (nn : Nat)) (.pointer (some ⟨W1.heap.size, 0, none⟩)) (HO5.out nn) (by first | (simp [Act.eval]; done) | simp [Act.eval, Act.put]) (by first | (simp [Act.eval, wtW]; done) | simp [Act.eval, Act.put, wtW]) (HN5.out nn) rfl rfl (by have := HZ5.out nn; exact Nat.le_trans hbase (by first | omega | (simp [wtW]; omega))) (by omega) ?_; intro v6 w6 hown6 hg6; obtain ⟨p6, c6, rfl⟩ := row_slice hown6; have HO6 := Lib.hid hown6; have hk6 : w6.heap[b]? = w3.heap[b]? := by { rw [hg6.block b (by simp [wtW]; omega) (fun e => by have := (World.ownsRow.lt (HO5.out nn) b e.symm).1; omega)]; exact (HB5.out nn).block b hb3 }; have HA6 := Lib.hid (alp_grown HA3.out hk6); obtain ⟨⟨_, _, _, _, _, q6, _, _⟩, f6⟩ := alp_cells HA6.out; have g6 := f6 5; clear f6 hown6 hk6)
          | (go_simp; go_at_call 72; refine (weight_any _ _).mono ?_; rintro e w' ⟨nn, rfl, rfl⟩))
        all_goals
          have h5x : ((wtW w3.drew).alloc (.cells #[.int .i64 (nn : Nat), .pointer (some ⟨W1.heap.size, 0, none⟩)] 144)).heap[x]? = some (.cells #[.string t, .string u, .string d] 9) := by rw [(HB5.out nn).block x hx3]; exact HX3.out
          have hx6 : w6.heap[x]? = some (.cells #[.string t, .string u, .string d] 9) := by
            rw [hg6.block x (heap_get_lt h5x) (fun e => by have := own_row_type (HO5.out nn) x _ 9 _ e.symm h5x; cases this)]
            exact h5x
          have ht6 : Trs w6 w.heap.size (.slice (some ⟨g, 0, none⟩) l.length cp) l := trs_grown (trs_below (trs_below HS.out.tr HB3.out) (HB5.out nn)) hg6 (fun kk cs e f hk hh => by have := own_row_type (HO5.out nn) kk cs e f hk hh; subst this; exact ⟨by decide, by decide⟩)
          have hBx : Below w.heap.size W1 w6 := (HB3.out.mono (by omega)).trans (((HB5.out nn).mono (by omega)).trans ⟨hg6.os, hg6.tape, hg6.output, hg6.size, fun kk hk => hg6.block kk (by have := HZ5.out nn; omega) (fun e => by have := (World.ownsRow.lt (HO5.out nn) kk e.symm).1; omega)⟩)
          have HBX := Lib.hid hBx
          have HSK : Hid (Sk w (w6.setCell ⟨b, 5, none⟩ (.slice p6 (k + 1) c6)) b (k + 1) (.slice (some ⟨g, 0, none⟩) l.length cp) l) :=
            ⟨⟨_, _, _, _, _, _, _, _, _, _, _, alp_set HA6.out, HO6.out.kept (grown_setCell w6 b 5 _) (.inr fun e => by have := own_row_type HO6.out b _ 45 _ e HA6.out; cases this)⟩,
             trs_grown ht6 (grown_setCell w6 b 5 _) (fun kk cs e f hk hh => by injection hk with hk; subst hk; have h1 := HA6.out; unfold AlpAt at h1; rw [h1] at hh; injection hh with hh; injection hh with _ hh; subst hh; exact ⟨by decide, by decide⟩),
             (kp_base HS.out.kp hBx).setCell (by simp) _⟩
          obtain ⟨y0, y1, y2, y3⟩ := tri_cells hx6
          have hxb2 : x ≠ b := by omega
          clear h5x hx6 ht6 hBx hg6 z0 z1 z2 z3 q5w q5v q5 g5
          go_wp2_with (go_at_call 69; refine (trimV _ _ _).mono ?_; rintro e w5 ⟨t5, rfl, ht5, rfl⟩; have hT5 := (of_trim ht5).size; clear ht5)
          go_roundw
          case rel => exact ⟨k + 1, _, by go_num, rfl, by omega, by omega, HSK⟩
          case measure => simp only [intOf]; omega
      · have hee := ne_empty hsb
        have HS : Hid (Sr w wr b k x (.slice (some ⟨g, 0, none⟩) l.length cp) l) := by
          obtain ⟨o, iv, rm, p, n, c, lt, sv, hs', q, xs, hA, hown⟩ := HK.out.ex
          exact ⟨⟨_, _, _, _, _, _, _, _, _, _, _, hA, hown⟩, HK.out.tr, HK.out.kp, ⟨_, _, _, HXX.out, HD.out, hsb⟩⟩
        clear hse hsb
        go_upto_region 6 with fail
        clear HXX HD hck z0 z1 z2 z3 hee
        have hww := HS.out.kp.size
        clear HK hg2
        generalize wr = W1 at HS hww ⊢
        obtain ⟨o, iv, rm, p, n, c, lt, sv, hs', q, xs, hA1, hown1⟩ := HS.out.ex
        obtain ⟨t, u, d, hx, hd, hd0⟩ := HS.out.num
        obtain ⟨p5, c5, rfl⟩ := row_slice hown1
        obtain ⟨z0, z1, z2, z3⟩ := tri_cells hx
        have hx1 := heap_get_lt hx
        have HXX := Lib.hid hx
        have HA1 := Lib.hid hA1
        have HO1 := Lib.hid hown1
        have HD := Lib.hid hd
        have HN := Lib.hid (isNum_of_digs hd hd0)
        have hdz := hd.size
        have HGW : Hid (Gl W1 a ae ai au) := (gt_kp HG.out HS.out.kp (by simp; omega)).toGl
        clear hA1 hown1 hx hd hd0
        go_upto_region 9 with (go_at_call 52; refine (conv_yes d _ a ae ai au HGW.out (by omega) HN.out).mono ?_; rintro e w3 ⟨rfl, _, hB3⟩; have HB3 := Lib.hid hB3; clear hB3)
        have hw3 := HB3.out.size
        have HA3 := Lib.hid (alp_below HA1.out HB3.out (by omega))
        have HO3 := Lib.hid (row_below HO1.out HB3.out)
        have HX3 : Hid (w3.heap[x]? = some (.cells #[.string t, .string u, .string d] 9)) := by
          show _ = _
          rw [HB3.out.block _ hx1]
          exact HXX.out
        clear z0 z1 z2 z3
        obtain ⟨z0, z1, z2, z3⟩ := tri_cells HX3.out
        obtain ⟨⟨_, _, _, _, _, q5, _, _⟩, f⟩ := alp_cells HA3.out
        have g5 := f 5
        clear f
        have hb3 : b < w3.heap.size := by omega
        have hx3 : x < w3.heap.size := by omega
        have q5w : (wtW w3.drew).cell? ⟨b, 5, none⟩ = some (.slice p5 k c5) := by unfold wtW; rw [World.cell?_alloc_old _ _ _ (by show b ≠ _; simp; omega)]; exact q5
        have q5v : ∀ nn : Nat, ((wtW w3.drew).alloc (.cells #[.int .i64 (nn : Nat), .pointer (some ⟨W1.heap.size, 0, none⟩)] 144)).cell? ⟨b, 5, none⟩ = some (.slice p5 k c5) := fun nn => by rw [World.cell?_alloc_old _ _ _ (by show b ≠ _; simp [wtW]; omega)]; exact q5w
        have hB5 : ∀ nn : Nat, Below w3.heap.size w3 ((wtW w3.drew).alloc (.cells #[.int .i64 (nn : Nat), .pointer (some ⟨W1.heap.size, 0, none⟩)] 144)) := fun nn => (((Below.refl _ _).drew).alloc (by simp) _).alloc (by simp) _
        have HO5 := fun nn : Nat => row_below HO3.out (hB5 nn)
        have hN5 : ∀ nn : Nat, ((wtW w3.drew).alloc (.cells #[.int .i64 (nn : Nat), .pointer (some ⟨W1.heap.size, 0, none⟩)] 144)).heap[w3.heap.size + 1]? = some (.cells #[.int .i64 (nn : Nat), .pointer (some ⟨W1.heap.size, 0, none⟩)] 144) := fun nn => by
          have h1 : w3.heap.size + 1 = (wtW w3.drew).heap.size := by simp [wtW]
          rw [h1]
          exact heap_alloc_new _ _
        have hz5 : ∀ nn : Nat, ((wtW w3.drew).alloc (.cells #[.int .i64 (nn : Nat), .pointer (some ⟨W1.heap.size, 0, none⟩)] 144)).heap.size = w3.heap.size + 2 := fun nn => by simp [wtW]
        have HB5 := Lib.hid hB5
        have HO5 := Lib.hid HO5
        have HN5 := Lib.hid hN5
        have HZ5 := Lib.hid hz5
        have hbase : w.heap.size ≤ w3.heap.size := by omega
        clear hB5 hN5 hz5
        go_region_law (first
          | (refine step_suf (base := w.heap.size) rfl (.tmp 37) (.tmp 44) rfl _ k xs (w3.heap.size + 1) (.int .i64 (nn : Nat)) (.pointer (some ⟨W1.heap.size, 0, none⟩)) (HO5.out nn) (by first | (simp [Act.eval]; done) | simp [Act.eval, Act.put]) (by first | (simp [Act.eval, wtW]; done) | simp [Act.eval, Act.put, wtW]) (HN5.out nn) rfl rfl (by have := HZ5.out nn; exact Nat.le_trans hbase (by first | omega | (simp [wtW]; omega))) (by omega) ?_; intro v6 w6 hown6 hg6; obtain ⟨p6, c6, rfl⟩ := row_slice hown6; have HO6 := Lib.hid hown6; have hk6 : w6.heap[b]? = w3.heap[b]? := by { rw [hg6.block b (by simp [wtW]; omega) (fun e => by have := (World.ownsRow.lt (HO5.out nn) b e.symm).1; omega)]; exact (HB5.out nn).block b hb3 }; have HA6 := Lib.hid (alp_grown HA3.out hk6); obtain ⟨⟨_, _, _, _, _, q6, _, _⟩, f6⟩ := alp_cells HA6.out; have g6 := f6 5; clear f6 hown6 hk6)
          | (go_simp; go_at_call 72; refine (weight_any _ _).mono ?_; rintro e w' ⟨nn, rfl, rfl⟩))
        all_goals
          have h5x : ((wtW w3.drew).alloc (.cells #[.int .i64 (nn : Nat), .pointer (some ⟨W1.heap.size, 0, none⟩)] 144)).heap[x]? = some (.cells #[.string t, .string u, .string d] 9) := by rw [(HB5.out nn).block x hx3]; exact HX3.out
          have hx6 : w6.heap[x]? = some (.cells #[.string t, .string u, .string d] 9) := by
            rw [hg6.block x (heap_get_lt h5x) (fun e => by have := own_row_type (HO5.out nn) x _ 9 _ e.symm h5x; cases this)]
            exact h5x
          have ht6 : Trs w6 w.heap.size (.slice (some ⟨g, 0, none⟩) l.length cp) l := trs_grown (trs_below (trs_below HS.out.tr HB3.out) (HB5.out nn)) hg6 (fun kk cs e f hk hh => by have := own_row_type (HO5.out nn) kk cs e f hk hh; subst this; exact ⟨by decide, by decide⟩)
          have hBx : Below w.heap.size W1 w6 := (HB3.out.mono (by omega)).trans (((HB5.out nn).mono (by omega)).trans ⟨hg6.os, hg6.tape, hg6.output, hg6.size, fun kk hk => hg6.block kk (by have := HZ5.out nn; omega) (fun e => by have := (World.ownsRow.lt (HO5.out nn) kk e.symm).1; omega)⟩)
          have HBX := Lib.hid hBx
          have HSK : Hid (Sk w (w6.setCell ⟨b, 5, none⟩ (.slice p6 (k + 1) c6)) b (k + 1) (.slice (some ⟨g, 0, none⟩) l.length cp) l) :=
            ⟨⟨_, _, _, _, _, _, _, _, _, _, _, alp_set HA6.out, HO6.out.kept (grown_setCell w6 b 5 _) (.inr fun e => by have := own_row_type HO6.out b _ 45 _ e HA6.out; cases this)⟩,
             trs_grown ht6 (grown_setCell w6 b 5 _) (fun kk cs e f hk hh => by injection hk with hk; subst hk; have h1 := HA6.out; unfold AlpAt at h1; rw [h1] at hh; injection hh with hh; injection hh with _ hh; subst hh; exact ⟨by decide, by decide⟩),
             (kp_base HS.out.kp hBx).setCell (by simp) _⟩
          obtain ⟨y0, y1, y2, y3⟩ := tri_cells hx6
          have hxb2 : x ≠ b := by omega
          clear h5x hx6 ht6 hBx hg6 z0 z1 z2 z3 q5w q5v q5 g5
          go_wp2_with (go_at_call 69; refine (trimV _ _ _).mono ?_; rintro e w5 ⟨t5, rfl, ht5, rfl⟩; have hT5 := (of_trim ht5).size; clear ht5)
          go_roundw
          case rel => exact ⟨k + 1, _, by go_num, rfl, by omega, by omega, HSK⟩
          case measure => simp only [intOf]; omega
    · go_wp2_with fail
      go_ret2
      obtain ⟨o, iv, rm, p, n, c, lt, sv, hs', q, xs, hA, hown⟩ := HK.out.ex
      obtain ⟨p3, c3, rfl⟩ := row_slice hown
      exact ⟨_, rfl, hr, ⟨_, _, _, _, _, _, _, _, _, _, _, _, hA⟩, HK.out.kp⟩
end Go.Proofs.YtoofphhfealcaaaGreatDoor

namespace Go.Proofs.YtoofphhfealcaaaGreatDoor
open Go.RowKit

set_option maxHeartbeats 1000000 in
theorem alpLetter_n (b : Nat) (s : ByteArray) (w : World) (hs : s.size ≤ 1048576) (hA : AlpN w b) :
    Calls Tryz.prog 41 #[.pointer (some ⟨b, 0, none⟩), .string s] w fun e w' => ∃ r, e = .returned (.string r) ∧ Of r s ∧ AlpN w' b ∧ Kp [b] w w' := by
  obtain ⟨o, iv, rm, p, n, c, lt, hh, q, hA⟩ := hA
  have HA := Lib.hid hA
  obtain ⟨⟨_, _, _, _, q4, _, _, _⟩, f⟩ := alp_cells hA
  have g4 := f 4
  clear f hA
  go_enter Tryz.func41, Tryz.ntmps41
  go_wp2_with (first
    | (go_at_call 70; refine (zzLower_any s _).mono ?_; rintro e w' ⟨bb, rfl, hb, rfl⟩; obtain rfl | ⟨rfl, h0⟩ : bb = false ∨ (bb = true ∧ 0 < s.size) := (by cases bb; exact .inl rfl; exact .inr ⟨rfl, hb rfl⟩))
    | (go_at_call 69; refine (trimV _ _ _).mono ?_; rintro e w5 ⟨t5, rfl, ht5, rfl⟩; have HT5 := Lib.hid ht5; clear ht5))
  all_goals go_ret
  · exact ⟨_, rfl, of_trim HT5.out, ⟨_, _, _, _, _, _, _, _, _, HA.out⟩, Kp.refl _ _⟩
  · exact ⟨_, rfl, of_trim HT5.out, ⟨_, _, _, _, _, _, _, _, _, alp_set HA.out⟩, (Kp.refl _ _).setCell (by simp) _⟩

set_option maxRecDepth 100000 in
set_option maxHeartbeats 8000000 in
theorem parseAlpine_any (s : ByteArray) (w : World) (a ae ai au : Addr) (hG : Gt w a ae ai au) (hs : s.size ≤ 1048576) : Calls Tryz.prog 22 #[.string s] w (OkPost w) := by
  have hw20 := hG.size
  have HG := Lib.hid (gt_below hG (alpW_below w s))
  have HA := Lib.hid (alpW_at w s)
  clear hG
  go_enter Tryz.func22, Tryz.ntmps22
  go_upto_region 14 with (first
    | (go_at_call 40; go_loud (refine (alpNumbers_any (w.heap.size + 1 + 1) s s _ a ae ai au HG.out hs (by omega) _ HA.out).mono ?_); rintro e w1 ⟨r1, p, n, c, rfl, hr1, hA1, hK1⟩; have HB1 := Lib.hid (ab_step (ab_start w s) hK1); have HG1 := Lib.hid (gt_kp HG.out hK1 (by simp; omega)); have HA1 : Hid (AlpN w1 (w.heap.size + 1 + 1)) := ⟨_, _, _, _, _, _, _, _, _, hA1⟩; have hr1 := hr1.size; clear hA1 hK1)
    | (go_at_call 41; go_loud (refine (alpLetter_n (w.heap.size + 1 + 1) r1 _ (by omega) HA1.out).mono ?_); rintro e w2 ⟨r2, rfl, hr2, hA2, hK2⟩; have HB2 := Lib.hid (ab_step HB1.out hK2); have HG2 := Lib.hid (gt_kp HG1.out hK2 (by simp; omega)); have HA2 := Lib.hid hA2; have hr2 := hr2.size; clear hA2 hK2)
    | (go_at_call 42; go_loud (refine (alpSuffixes_all (w.heap.size + 1 + 1) r2 _ a ae ai au HG2.out (by omega) (by omega) HA2.out).mono ?_); rintro e w3 ⟨r3, rfl, hr3, hA3, hK3⟩; have HB3 := Lib.hid (ab_step HB2.out hK3); have HG3 := Lib.hid (gt_kp HG2.out hK3 (by simp; omega)); have HA3 := Lib.hid hA3; clear hA3 hK3)
    | (go_at_call 43; go_loud (refine (alpHash_all (w.heap.size + 1 + 1) r3 _ (by omega) HA3.out).mono ?_); rintro e w4 ⟨r4, rfl, hr4, hA4, hK4⟩; have HB4 := Lib.hid (ab_step HB3.out hK4); have HG4 := Lib.hid (gt_kp HG3.out hK4 (by simp; omega)); have HA4 := Lib.hid hA4; have hr4 := hr4.size; clear hA4 hK4)
    | (go_at_call 44; go_loud (refine (alpBuild_all (w.heap.size + 1 + 1) r4 _ a ae ai au HG4.out (by omega) HA4.out).mono ?_); rintro e w5 ⟨r5, rfl, hr5, hA5, hK5⟩; have HB5 := Lib.hid (ab_step HB4.out hK5); have HA5 := Lib.hid hA5; clear hA5 hK5))
  obtain ⟨o4, iv4, rm4, p4, n4, c4, lt4, p5, n5, c5, hs4, q4, hA4⟩ := HA5.out
  have HAq := Lib.hid (alp_set (i := 2) (v := .string r5) hA4)
  have HBq := Lib.hid (ab_step HB5.out ((Kp.refl _ _).setCell (x := ⟨w.heap.size + 1 + 1, 2, none⟩) (by simp) (.string r5)))
  obtain ⟨⟨x0, x1, x2, x3, x4, x5, x6, x7⟩, y0, y1, y2, y3, y4, y5, y6, y7⟩ := cells8 hA4
  clear hA4
  go_upto_region 15 with fail
  clear x0 x1 x2 x3 x4 x5 x6 x7 y0 y1 y2 y3 y4 y5 y6 y7
  have h5 := HAq.out
  simp only [List.setIfInBounds_toArray, List.set_cons_succ, List.set_cons_zero] at h5
  obtain ⟨⟨x0, x1, x2, x3, x4, x5, x6, x7⟩, y0, y1, y2, y3, y4, y5, y6, y7⟩ := cells8 h5
  clear h5
  have HB6 := Lib.hid HBq.out.below
  have HAT := Lib.hid HBq.out.at'
  have HT6 : Hid ((w5.setCell ⟨w.heap.size + 1 + 1, 2, none⟩ (.string r5)).there w.heap.size 0 8) := alp_there HBq.out.at'
  generalize (w5.setCell ⟨w.heap.size + 1 + 1, 2, none⟩ (.string r5)) = W at *
  go_wp2_with (first | (refine wpList_store_mid rfl 45 _ _ rfl w.heap.size 0 _ rfl rfl HT6.out inf45 (alp_ones _ _ _ _ _ _ _ _ _ _ _ _) ?_))
  have HZ : Hid ((W.setCells w.heap.size 0 [.string o4, .bool iv4, .string r5, .slice p4 n4 c4, .string lt4, .slice p5 n5 c5, .string hs4, .pointer q4]).rangeAt w.heap.size 0 [.string o4, .bool iv4, .string r5, .slice p4 n4 c4, .string lt4, .slice p5 n5 c5, .string hs4, .pointer q4]) :=
    World.rangeAt_setCells_same W w.heap.size 0 _ HT6.out
  have HB7 : Hid (Below w.heap.size w (W.setCells w.heap.size 0 [.string o4, .bool iv4, .string r5, .slice p4 n4 c4, .string lt4, .slice p5 n5 c5, .string hs4, .pointer q4])) :=
    below_setCells (Nat.le_refl _) _ _ HB6.out
  generalize (W.setCells w.heap.size 0 [.string o4, .bool iv4, .string r5, .slice p4 n4 c4, .string lt4, .slice p5 n5 c5, .string hs4, .pointer q4]) = W7 at HZ HB7 ⊢
  clear x0 x1 x2 x3 x4 x5 x6 x7 y0 y1 y2 y3 y4 y5 y6 y7
  obtain ⟨d, hd1, hd2⟩ := und45
  refine bodyPost_ret (res_cell_tmp Tryz.results22 rfl HZ.out hd1 hd2 inf45) rfl ?_
  exact ⟨_, rfl, HB7.out⟩
end Go.Proofs.YtoofphhfealcaaaGreatDoor

namespace Go.Proofs.YtoofphhfealcaaaGreatDoor
open Go.RowKit

/-- String answers a text of at most 65536 bytes, for numbers of at most n bytes. -/
def StrB (n : Nat) : Prop := ∀ (w : World) (base p : Nat) (s : ByteArray) (a ae ai au : Addr), Gl w a ae ai au → BigAt w base p s → isNum (bs s) = true → s.size ≤ n → Calls Tryz.prog 85 #[.pointer (some ⟨p, 0, none⟩)] w fun e w' => ∃ t, e = .returned (.string t) ∧ t.size ≤ 65536 ∧ Below w.heap.size w w'
theorem bld_add (B b : Nat) (m : List UInt8) (s : ByteArray) (w : World) (h : Lib.IsBuilderF 166 5 B b (Lib.byteCells m) w) (hlen : m.length + s.size ≤ 1073741824) (hBw : B ≤ w.heap.size) :
    Calls Tryz.prog 90 #[.pointer (some ⟨b, 0, none⟩), .string s] w fun e w' => (∃ x, e = .returned x) ∧ Lib.IsBuilderF 166 5 B b (Lib.byteCells (m ++ bs s)) w' ∧ Below B w w' := by
  have h1 := bld_str B b m (bs s) w h (by rw [bs_len]; exact hlen) hBw
  rw [mk_bs] at h1
  exact h1.mono fun e w' ⟨hx, hb, hB, _⟩ => ⟨hx, hb, hB⟩
theorem bld_grow (B b : Nat) (m : List UInt8) (s : ByteArray) (w : World) (h : Lib.IsBuilderF 166 5 B b (Lib.byteCells m) w) (hlen : m.length + s.size ≤ 1073741824) (hBw : B ≤ w.heap.size) :
    Calls Tryz.prog 90 #[.pointer (some ⟨b, 0, none⟩), .string s] w fun e w' => ∃ x m', e = .returned x ∧ m'.length = m.length + s.size ∧ Lib.IsBuilderF 166 5 B b (Lib.byteCells m') w' ∧ Below B w w' :=
  (bld_add B b m s w h hlen hBw).mono fun e w' ⟨⟨x, hx⟩, hb, hB⟩ => ⟨x, _, hx, by rw [List.length_append, bs_len], hb, hB⟩
theorem dot_size (t : ByteArray) : (⟨#[46]⟩ ++ t : ByteArray).size = 1 + t.size := by rw [ByteArray.size_append]; rfl
theorem bldAt_below {T e : TypeId} {B b : Nat} {p : Value} {bs : List Value} {W W' : World} (h : Lib.BuilderAtF T e B b p bs W) (hb : Below W.heap.size W W') : Lib.BuilderAtF T e B b p bs W' := by
  obtain ⟨hB, v, hv, hown, hne⟩ := h
  exact ⟨hB, v, (hb.block b (heap_get_lt hv)).trans hv, hown.kept (row := none) ⟨hb.os, hb.tape, hb.output, hb.size, fun k hk _ => hb.block k hk⟩ (Classical.em _), hne⟩
theorem bld_below {T e : TypeId} {B b : Nat} {bs : List Value} {W W' : World} (h : Lib.IsBuilderF T e B b bs W) (hb : Below W.heap.size W W') : Lib.IsBuilderF T e B b bs W' :=
  h.elim (fun x => .inl (bldAt_below x hb)) (fun x => .inr (bldAt_below x hb))
theorem elem47 : Tryz.prog.underlying 47 = some (.slice (Tryz.prog.elem 47)) := by kernel_rfl
theorem elem47' : Tryz.prog.elem 47 = 43 := by kernel_rfl
theorem sz43 : (Tryz.prog.info? 43).map (·.size) = some 1 := by kernel_rfl
theorem size43 (W : World) : (sizeOf 43).run Tryz.prog W = .ok 1 W := by
  obtain ⟨i0, hi, hzz⟩ := Option.map_eq_some_iff.1 sz43
  simp [sizeOf, typeInfo, hi, hzz]
theorem slice_phi (g n c i : Nat) (h : i ≤ c) (W : World) : (Instr.slice 47 (.slice (some ⟨g, 0, none⟩) n c) none (some (.int .i64 (i : Int))) none).run Tryz.prog W = .ok (.slice (some ⟨g, 0, none⟩) i c) W := by
  rw [run_slice_h (P := Tryz.prog) (w := W) 47 (some ⟨g, 0, none⟩) n c elem47 .i64 (i : Int) (by omega) (by omega), elem47', size43]
  simp [Result.andThen, sliced, Addr.add]
theorem slice_plo (g n c i : Nat) (h : i ≤ n) (hc : i < c) (W : World) : (Instr.slice 47 (.slice (some ⟨g, 0, none⟩) n c) (some (.int .i64 (i : Int))) none none).run Tryz.prog W = .ok (.slice (some ⟨g, i, none⟩) (n - i) (c - i)) W := by
  rw [run_slice_l (P := Tryz.prog) (w := W) 47 (some ⟨g, 0, none⟩) n c elem47 .i64 (i : Int) (by omega) (by omega), elem47', size43]
  simp [Result.andThen, sliced, Addr.add_lit, Int.toNat_natCast]
  intro h1
  omega
theorem comps_at {w : World} {base : Nat} {v : Value} {l : List (Nat × List UInt8)} (h : Comps w base v l) (hl : 0 < l.length) : ∃ g c, v = .slice (some ⟨g, 0, none⟩) l.length c ∧ l.length ≤ c ∧ ∀ j (hj : j < l.length), w.cell? ⟨g, j, none⟩ = some (.pointer (some ⟨(l[j]).1, 0, none⟩)) := by
  have h' := h.own
  rcases h.own.2 with ⟨rfl, h0⟩ | ⟨g, cap, cur, rfl, hb, hh, hc, hm, hn, _⟩
  · omega
  · refine ⟨g, cap, rfl, by first | omega | simpa using hn, fun j hj => ?_⟩
    have := World.ownsRow.cellAt h' j (by simpa using hj)
    rw [this]
    simp [hj]
set_option maxRecDepth 100000 in
set_option maxHeartbeats 4000000 in
theorem fcb_all (N : Nat) (t : ByteArray) (hN : N ≤ 100) (ht : t.size ≤ 1200) (hS : StrB 1200) : FcbOK (N : Int) t := by
  intro W k base v l b bld org a ae ai au HG hk h20 hc hl1 hl2 hb hd
  have c1 : W.cell? ⟨k, 1, none⟩ = some v := by rw [Lib.cell_of_heap hk]; rfl
  have c2 : W.cell? ⟨k, 2, none⟩ = some (.string bld) := by rw [Lib.cell_of_heap hk]; rfl
  have hkw : k < W.heap.size := heap_get_lt hk
  have h1 : ((N : Int) == -1) = false := by rw [beq_eq_false_iff_ne]; omega
  have HSTR := Lib.hid hS
  have HGL := Lib.hid HG
  have HC := Lib.hid hc
  have HD := Lib.hid hd
  clear hS HG hd hk hl2
  by_cases hlN : l.length ≤ N
  · obtain ⟨p, m, c, rfl⟩ := comps_slice hc
    have hm : m = l.length := by
      rcases hc.own.2 with ⟨h1, h2⟩ | ⟨g, cap, cur, h1, _⟩
      · cases h1; omega
      · cases h1; rfl
    have h2 : (m : Int) ≤ (N : Int) := by omega
    clear hc
    go_enter Tryz.func76, Tryz.ntmps76
    go_wp2_with fail
    go_quiet (fail)
    go_wp2_with fail
    go_ret2
    exact ⟨_, _, _, _, rfl, fun h => by omega, bl_drewN (Below.refl _ _) _⟩
  · obtain ⟨g, c, rfl, hcc, hcs⟩ := comps_at hc (by omega)
    have HCS := Lib.hid hcs
    have h2 : ¬ ((l.length : Int) ≤ (N : Int)) := by omega
    have hs1 := fun W => slice_phi g l.length c N (by omega) W
    have hs2 := fun W => slice_plo g l.length c N (by omega) (by omega) W
    have hF : Lib.IsBuilderF 166 5 W.heap.size W.heap.size (Lib.byteCells []) (W.alloc (.cells #[.pointer none, .slice none 0 0] 166)) := Lib.IsBuilderF.of (Lib.fresh_isBuilder 166 5 W)
    have HF := Lib.hid hF
    clear hcs hF hc
    go_enter Tryz.func76, Tryz.ntmps76
    go_wp2_with (go_at_call 90; refine (bld_add W.heap.size W.heap.size [] bld _ HF.out (by simp; omega) (by simp)).mono ?_; rintro e w1 ⟨⟨x, rfl⟩, hb1, hB1⟩; have HF1 := Lib.hid hb1; have HB1 : Hid (Below W.heap.size W w1) := ((Below.refl _ _).alloc (Nat.le_refl _) _).trans hB1; clear hb1 hB1)
    go_loopw [49] (fun p wr => ∃ (j : Nat) (m : List UInt8), p = .int .i64 j ∧ j ≤ l.length - N ∧ m.length ≤ 1200 + 70000 * j ∧ Hid (Lib.IsBuilderF 166 5 W.heap.size W.heap.size (Lib.byteCells m) wr) ∧ Hid (Below W.heap.size W wr)) (fun p _ => l.length - N - (intOf p).toNat)
    case atStart => exact ⟨0, _, rfl, Nat.zero_le _, by simp [bs_len]; omega, HF1, HB1⟩
    case round =>
      obtain ⟨j, m, rfl, hj, hm, HL, HW⟩ := hrel
      have hww := HW.out.size
      by_cases hlt : j < l.length - N
      · have hck := HCS.out (N + j) (by omega)
        rw [← (bcell HW.out).1 g (N + j) (by
          have := hck
          simp only [World.cell?] at this
          cases hq : W.heap[g]? with
          | none => rw [hq] at this; cases this
          | some q => exact heap_get_lt hq)] at hck
        have HX : Hid ((l[N + j]'(by omega)) ∈ l) := List.getElem_mem _
        generalize (l[N + j]'(by omega)) = x at hck HX
        have hxd := HD.out x HX.out
        have HXD := Lib.hid hxd
        have hxs : (mk x.2).size ≤ 1200 := by rw [mk_size]; omega
        have HXB := Lib.hid ((comps_below HC.out HW.out).big x HX.out).2
        have HXN : Hid (isNum (bs (mk x.2)) = true) := by show _ = _; rw [bs_mk]; exact isNum_digs hxd.1 hxd.2.1
        have HGW := Lib.hid (gl_of HGL.out HW.out)
        clear hxd
        go_wp2_with (first
          | (go_at_call 85; go_loud (refine (HSTR.out _ _ x.1 (mk x.2) a ae ai au HGW.out HXB.out HXN.out hxs).mono ?_); rintro e w2 ⟨t2, rfl, hz2, hB2⟩; go_loud (have HL2 := Lib.hid (bld_below HL.out hB2)); go_loud (have HW2 := Lib.hid (HW.out.trans (hB2.mono hww))); have hw2 := HW2.out.size; clear hB2)
          | (go_at_call 90; refine (bld_grow W.heap.size W.heap.size m _ _ HL2.out (by rw [dot_size]; omega) hw2).mono ?_; rintro e w3 ⟨x3, m3, rfl, hm3, hb3, hB3⟩; rw [dot_size] at hm3; have HL3 := Lib.hid hb3; have HW3 := Lib.hid (HW2.out.trans hB3); clear hb3 hB3))
        go_roundw
        case rel => exact ⟨j + 1, m3, by go_num, by omega, by omega, HL3, HW3⟩
        case measure => simp only [intOf]; omega
      · go_wp2_with (go_at_call 92; refine (Tryz.bld_String W.heap.size W.heap.size m _ HL.out hww).mono ?_; rintro e w2 ⟨rfl, hb1, hB1, hi1⟩; have HW2 := Lib.hid (HW.out.trans hB1); clear hb1 hB1 hi1)
        go_ret2
        exact ⟨_, _, _, _, rfl, fun h => by omega, HW2.out⟩
end Go.Proofs.YtoofphhfealcaaaGreatDoor
