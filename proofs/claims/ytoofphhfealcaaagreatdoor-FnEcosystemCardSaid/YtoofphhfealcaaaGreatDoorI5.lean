/-
  WALKS: PyPI's versions, at texts of ASCII: ParsePyPIVersion.
-/
import Derived.Test.YtoofphhfealcaaaGreatDoorI4
namespace Go.Proofs.YtoofphhfealcaaaGreatDoor
open Go.RowKit

/-- The version's cells. -/
abbrev pvA (p0 p1 : Option Addr) (n1 c1 : Nat) (s2 : ByteArray) (p3 : Option Addr) (s4 : ByteArray) (p5 : Option Addr) (s6 : ByteArray) (p7 : Option Addr) (p8 : Option Addr) (n8 c8 : Nat) (p9 : Option Addr) (n9 c9 : Nat) : Array Value :=
  #[.pointer p0, .slice p1 n1 c1, .string s2, .pointer p3, .string s4, .pointer p5, .string s6, .pointer p7, .slice p8 n8 c8, .slice p9 n9 c9]
def PvPost (w : World) (e : Ending) (w' : World) : Prop := ∃ p0 p1 n1 c1 s2 p3 s4 p5 s6 p7 p8 n8 c8 p9 n9 c9, e = .returned (.agg (pvA p0 p1 n1 c1 s2 p3 s4 p5 s6 p7 p8 n8 c8 p9 n9 c9)) ∧ Below w.heap.size w w'
set_option maxRecDepth 100000 in
set_option maxHeartbeats 4000000 in
theorem legacy_pv (s : ByteArray) (w : World) (hs : s.size ≤ 1048000) : Calls Tryz.prog 57 #[.string s] w (PvPost w) := by
  go_enter Tryz.func57, Tryz.ntmps57
  go_wp2_with fail
  refine (verParts_any s _ hs).mono ?_
  rintro e w1 ⟨A, n, c, rfl, b1⟩
  have B1 := Lib.hid b1
  have hs1 := b1.size
  simp at hs1
  clear b1
  have HT : Hid (∀ w2, Below w1.heap.size w1 w2 → w2.heap[w.heap.size]? = some (.cells pyp0 67)) := fun w2 hb => by
    rw [hb.block _ (by omega)]
    exact kept_blk (w := w) (o := .cells pyp0 67) (by have := B1.out; rw [World.size_alloc] at this; exact this)
  go_wp2_with (first
    | (go_at_call 49; refine (newInt_neg _).mono ?_; rintro e w2 ⟨rfl, b2⟩; have HB2 := Lib.hid b2; have hs2 := b2.size; clear b2)
    | (refine wpList_store_mid rfl 67 _ _ rfl w.heap.size 0 _ rfl rfl (there_of (n := 10) (HT.out _ HB2.out) (Nat.le_refl 10)) inf67 (pyp_ones _ _ _ _ _ _ _ _ _ _ _ _ _ _ _ _) ?_))
  have HZ := Lib.hid (World.rangeAt_setCells_same w2 w.heap.size 0 [.pointer (some ⟨w1.heap.size + 1, 0, none⟩), .slice none 0 0, .string (mk []), .pointer none, .string (mk []), .pointer none, .string (mk []), .pointer none, .slice none 0 0, .slice A n c] (there_of (n := 10) (HT.out _ HB2.out) (Nat.le_refl 10)))
  have HB7 : Hid (Below w.heap.size w (w2.setCells w.heap.size 0 [.pointer (some ⟨w1.heap.size + 1, 0, none⟩), .slice none 0 0, .string (mk []), .pointer none, .string (mk []), .pointer none, .string (mk []), .pointer none, .slice none 0 0, .slice A n c])) :=
    below_setCells (Nat.le_refl _) _ _ (((Below.refl w.heap.size w).alloc (Nat.le_refl _) (.cells pyp0 67)).trans ((B1.out.mono (by simp)).trans (HB2.out.mono (by omega))))
  obtain ⟨d, hd1, hd2⟩ := und67
  refine bodyPost_ret (res_cell1 Tryz.results57 rfl HZ.out hd1 hd2 inf67) rfl ?_
  exact ⟨_, _, _, _, _, _, _, _, _, _, _, _, _, _, _, _, rfl, HB7.out⟩

/-- A whole block, stored over. -/
theorem set_all {W : World} {b : Nat} {cs : Array Value} {T : TypeId} (h : W.heap[b]? = some (.cells cs T)) (vs : Array Value) (hl : vs.size = cs.size) : (W.setCells b 0 vs.toList).heap[b]? = some (.cells vs T) := by
  obtain ⟨cur, h1, h2, h3⟩ := heap_setCells_at b T (0, 0) vs.toList 0 W cs h (by simp; omega)
  have e : cur = vs := by
    apply Array.toList_inj.1
    rw [h3]
    simp [hl]
  rw [h1, e]
/-- What the walk keeps of the world: the result's block, the match's block, the version's block. -/
structure Pw (w0 W : World) (bm bv : Nat) (mt vs : Array Value) : Prop where
  zz : W.heap[w0.heap.size]? = some (.cells pyp0 67)
  m : W.heap[bm]? = some (.cells mt 127)
  v : W.heap[bv]? = some (.cells vs 67)
  ord : w0.heap.size < bm ∧ bm < bv
  below : Below w0.heap.size w0 W
theorem pw_size {w0 W : World} {bm bv : Nat} {mt vs : Array Value} (h : Pw w0 W bm bv mt vs) : bv < W.heap.size := (Array.getElem?_eq_some_iff.1 h.v).1
theorem pw_below {w0 W W1 : World} {bm bv B : Nat} {mt vs : Array Value} (h : Pw w0 W bm bv mt vs) (hb : Below B W W1) (hB : bv < B) : Pw w0 W1 bm bv mt vs := by
  have h1 := h.ord.1
  have h2 := h.ord.2
  exact ⟨by rw [hb.block _ (by omega)]; exact h.zz, by rw [hb.block _ (by omega)]; exact h.m, by rw [hb.block _ hB]; exact h.v, h.ord, h.below.trans (hb.mono (by omega))⟩
theorem pw_set {w0 W : World} {bm bv : Nat} {mt vs : Array Value} (h : Pw w0 W bm bv mt vs) (i : Nat) (v : Value) : Pw w0 (W.setCell ⟨bv, i, none⟩ v) bm bv mt (vs.setIfInBounds i v) := by
  have h1 := h.ord.1
  have h2 := h.ord.2
  exact ⟨by rw [Below.heap_setCell _ _ _ _ (by simp; omega)]; exact h.zz, by rw [Below.heap_setCell _ _ _ _ (by simp; omega)]; exact h.m, heap_setCell_at _ _ _ _ _ _ _ h.v, h.ord, Below.setCell h.below (by simp; omega) _⟩
theorem pw_cell {w0 W : World} {bm bv : Nat} {mt vs : Array Value} (h : Pw w0 W bm bv mt vs) (i : Nat) (hi : i < vs.size) : W.cell? ⟨bv, i, none⟩ = some vs[i] ∧ W.frozen? ⟨bv, i, none⟩ = false := by
  refine ⟨?_, ?_⟩ <;> simp [World.cell?, World.frozen?, h.v, hi]
theorem pw_mt {w0 W : World} {bm bv : Nat} {mt vs : Array Value} (h : Pw w0 W bm bv mt vs) (i : Nat) (hi : i < mt.size) : W.cell? ⟨bm, i, none⟩ = some mt[i] := by
  simp [World.cell?, h.m, hi]

theorem wordsAt_blk {W W1 : World} {g : Nat} {l : List ByteArray} (h : WordsAt W g l) (hb : W1.heap[g]? = W.heap[g]?) : WordsAt W1 g l := by
  intro j hj
  have h1 := h j hj
  simp only [World.cell?] at *
  rw [hb]; exact h1
theorem row_set {w : World} {base : Nat} {e : TypeId} {sz : Nat} {v : Value} {n : Nat} {xs : List Value} (h : w.ownsRow base e sz v n xs) {k : Nat} (hk : k < base) (o : Nat) (x : Value) : (w.setCell ⟨k, o, none⟩ x).ownsRow base e sz v n xs := by
  refine h.kept (grown_cell w k o x) ?_
  rcases hb : v.ownBlock with _ | b
  · exact .inl rfl
  · refine .inr (fun e => ?_)
    have := (h.lt b hb).1
    have : b = k := by simpa using e
    omega
theorem range_blk {W : World} {b : Nat} {cs : Array Value} {T : TypeId} (h : W.heap[b]? = some (.cells cs T)) : W.rangeAt b 0 cs.toList := by
  intro j v hv
  simp [World.cell?, h, ← Array.getElem?_toList, hv]
theorem pieces_pos (c : UInt8) (s : ByteArray) : 0 < (pieces c s).length := by
  unfold pieces
  rw [List.length_map]
  exact List.length_pos_iff.2 (cutBy_ne _ _)
set_option maxRecDepth 1000000 in
set_option maxHeartbeats 16000000 in
theorem parsePyPI_any (s : ByteArray) (w : World) (a ae ai au : Addr) (hG : Gl w a ae ai au) (hs : s.size ≤ 1048000) (ha : Asc (bs s)) : Calls Tryz.prog 31 #[.string s] w (OkPost w) := by
  have HA := Lib.hid ha
  have HG := Lib.hid hG
  have hw20 := hG.size
  have HB0 : Hid (Below w.heap.size w (w.alloc (.cells pyp0 67))) := (Below.refl w.heap.size w).alloc (Nat.le_refl _) _
  clear ha hG
  go_enter Tryz.func31, Tryz.ntmps31
  go_wp2_with fail
  refine (toLower_any s _ (by omega) HA.out).mono ?_
  rintro e w1 ⟨t, rfl, ht, b1⟩
  have HT := Lib.hid ht
  have htz := ht.size
  have B1 := Lib.hid b1
  have hs1 := b1.size
  simp at hs1
  clear ht b1
  go_upto_region 2 with fail
  go_cut [4] (fun p wr => ∃ (bm : Nat) (ok : Bool) (t1 t2 t3 t4 t5 t6 t7 t8 t9 t10 : ByteArray), p = .pointer (some ⟨bm, 0, none⟩) ∧ w.heap.size < bm ∧ bm < wr.heap.size ∧ Hid (wr.heap[bm]? = some (.cells (mtA ok t1 t2 t3 t4 t5 t6 t7 t8 t9 t10) 127)) ∧ Hid (wr.heap[w.heap.size]? = some (.cells pyp0 67)) ∧ Hid (ok = true → MtOK t.size t1 t2 t3 t4 t5 t6 t7 t8 t9 t10) ∧ Hid (Below w.heap.size w wr))
  case first =>
    as_aux_lemma =>
      go_wp2_with fail
      refine (match_any t _ (by omega) HT.out.asc).mono ?_
      rintro e w2 ⟨ok, t1, t2, t3, t4, t5, t6, t7, t8, t9, t10, rfl, hok, b2⟩
      have hs2 := b2.size
      have HK0 : Hid (w2.heap[w.heap.size]? = some (.cells pyp0 67)) := kept_blk (w := w) (o := .cells pyp0 67) (by have := B1.out.trans (b2.mono B1.out.size); rw [World.size_alloc] at this; exact this)
      have HB2 : Hid (Below w.heap.size w w2) := HB0.out.trans ((B1.out.trans (b2.mono B1.out.size)).mono (by simp))
      have HOK := Lib.hid hok
      clear b2 hok B1 HB0
      have HTH : Hid ((w2.alloc (.cells mt0 127)).there w2.heap.size 0 11) := there_of (heap_alloc_new w2 _) (Nat.le_refl 11)
      have HS1 := Lib.hid (set_all (heap_alloc_new w2 (.cells mt0 127)) (mtA ok t1 t2 t3 t4 t5 t6 t7 t8 t9 t10) rfl)
      have HS2 : Hid (((w2.alloc (.cells mt0 127)).setCells w2.heap.size 0 (mtA ok t1 t2 t3 t4 t5 t6 t7 t8 t9 t10).toList).heap[w.heap.size]? = some (.cells pyp0 67)) := by
        have h := (grown_setCells w2.heap.size (mtA ok t1 t2 t3 t4 t5 t6 t7 t8 t9 t10).toList 0 (w2.alloc (.cells mt0 127))).block w.heap.size (by simp; omega) (by simp; omega)
        show _ = _
        rw [h, heap_alloc_old _ _ (by omega)]
        exact HK0.out
      have HS3 : Hid (Below w.heap.size w ((w2.alloc (.cells mt0 127)).setCells w2.heap.size 0 (mtA ok t1 t2 t3 t4 t5 t6 t7 t8 t9 t10).toList)) := below_setCells (by omega) _ _ (HB2.out.alloc (by omega) _)
      have hs4 : w2.heap.size < ((w2.alloc (.cells mt0 127)).setCells w2.heap.size 0 (mtA ok t1 t2 t3 t4 t5 t6 t7 t8 t9 t10).toList).heap.size := by rw [heap_setCells]; simp
      have HS4 := Lib.hid hs4
      clear hs4
      go_wp2_with (refine wpList_store_mid rfl 127 _ _ rfl w2.heap.size 0 _ rfl rfl HTH.out inf127 (mt_ones _ _ _ _ _ _ _ _ _ _ _) ?_)
      go_meet
      exact ⟨w2.heap.size, ok, t1, t2, t3, t4, t5, t6, t7, t8, t9, t10, rfl, by omega, HS4.out, HS1, HS2, HOK, HS3⟩
  case rest =>
    obtain ⟨bm, ok, t1, t2, t3, t4, t5, t6, t7, t8, t9, t10, rfl, hbm1, hbm2, HMB, HZB, HOK, HBW⟩ := hcut
    have q0 : wc.cell? ⟨bm, 0, none⟩ = some (.bool ok) := by simp [World.cell?, HMB.out]
    have HGW := Lib.hid (gl_below HG.out (HBW.out))
    clear HB0 B1
    cases ok
    · go_wp2_with (first
        | (go_at_call 57; refine (legacy_pv t _ (by omega)).mono ?_; rintro e w3 ⟨p0, p1, n1, c1, s2, p3, s4, p5, s6, p7, p8, n8, c8, p9, n9, c9, rfl, b3⟩; have HZ3 : Hid (w3.heap[w.heap.size]? = some (.cells pyp0 67)) := (by show _ = _; rw [b3.block _ (by omega)]; exact HZB.out); have HB3 := Lib.hid (HBW.out.trans (b3.mono HBW.out.size)); clear b3)
        | (refine wpList_store_mid rfl 67 _ _ rfl w.heap.size 0 _ rfl rfl (there_of (n := 10) HZ3.out (Nat.le_refl 10)) inf67 (pyp_ones _ _ _ _ _ _ _ _ _ _ _ _ _ _ _ _) ?_))
      obtain ⟨d, hd1, hd2⟩ := und67
      refine bodyPost_ret (res_cell_tmp (cs := (pvA p0 p1 n1 c1 s2 p3 s4 p5 s6 p7 p8 n8 c8 p9 n9 c9).toList) Tryz.results31 rfl (World.rangeAt_setCells_same _ w.heap.size 0 _ (there_of (n := 10) HZ3.out (Nat.le_refl 10))) hd1 hd2 inf67) rfl ?_
      exact ⟨_, rfl, below_setCells (Nat.le_refl _) _ _ HB3.out⟩
    · have HO : Hid (MtOK t.size t1 t2 t3 t4 t5 t6 t7 t8 t9 t10) := HOK.out rfl
      have HP0 : Hid (Pw w (wc.alloc (.cells pyp0 67)) bm wc.heap.size (mtA true t1 t2 t3 t4 t5 t6 t7 t8 t9 t10) pyp0) := ⟨by rw [heap_alloc_old _ _ (by omega)]; exact HZB.out, by rw [heap_alloc_old _ _ hbm2]; exact HMB.out, heap_alloc_new _ _, ⟨hbm1, hbm2⟩, HBW.out.alloc (by omega) _⟩
      go_upto_region 6 with fail
      clear q0 HOK HMB HZB
      have HG0 := Lib.hid (gl_below HG.out (HP0.out.below))
      clear HGW
      have htz2 := HO.out.ep.size
      go_wp2_with fail
      refine (newInt_zero _).mono ?_
      rintro e w4 ⟨rfl, b4⟩
      have HPB := Lib.hid (pw_below HP0.out b4 (by simp))
      obtain ⟨v0, v0f⟩ := pw_cell HPB.out 0 (show 0 < 10 by decide)
      have m1 := pw_mt HPB.out 1 (show 1 < 11 by decide)
      have HP1 := Lib.hid (pw_set HPB.out 0 (.pointer (some ⟨wc.heap.size + 1, 0, none⟩)))
      clear b4
      go_upto_region 8 with fail
      clear v0 v0f m1
      go_cut [5, 6, 32] (fun s5 s6 t wr => ∃ (bv : Nat) (p0 : Option Addr) (x : Bool), s5 = .pointer (some ⟨bv, 0, none⟩) ∧ s6 = .string t1 ∧ t = .bool x ∧ Hid (x = true → bs t1 ≠ []) ∧ Hid (Pw w wr bm bv (mtA true t1 t2 t3 t4 t5 t6 t7 t8 t9 t10) (pvA p0 none 0 0 (mk []) none (mk []) none (mk []) none none 0 0 none 0 0)))
      case first =>
        as_aux_lemma =>
          rcases ise_dec t1 with ⟨hse, hsb⟩ | ⟨hse, hsb⟩
          · have hee := eq_empty hsb
            clear hse hsb
            go_wp2_with fail
            go_meet
            exact ⟨_, _, _, rfl, rfl, rfl, (fun h => by cases h), HP1⟩
          · have hee := ne_empty hsb
            have HSB := Lib.hid hsb
            clear hse hsb
            go_wp2_with fail
            go_meet
            exact ⟨_, _, _, rfl, rfl, rfl, (fun _ => HSB.out), HP1⟩
      case rest =>
        obtain ⟨bv, p0, x, rfl, rfl, rfl, hx, HP2⟩ := hcut
        clear HP0 HP1 HG0 hbm1 hbm2
        go_upto_if 32 with fail
        go_cut [7, 8] (fun _ _ wr => ∃ (p0 : Option Addr), Hid (Pw w wr bm bv (mtA true t1 t2 t3 t4 t5 t6 t7 t8 t9 t10) (pvA p0 none 0 0 (mk []) none (mk []) none (mk []) none none 0 0 none 0 0)))
        case first =>
          as_aux_lemma =>
            cases x
            · go_wp2_with fail
              go_meet
              exact ⟨p0, HP2⟩
            · have HNU := Lib.hid (isNum_of_digs HO.out.ep (hx.out rfl))
              have HGW := Lib.hid (gl_below HG.out HP2.out.below)
              have hsz := pw_size HP2.out
              go_wp2_with (go_at_call 52; refine (conv_yes t1 _ a ae ai au HGW.out (by omega) HNU.out).mono ?_; rintro e w3 ⟨rfl, _, b3⟩; have HP3 := Lib.hid (pw_below HP2.out b3 hsz); obtain ⟨v0, v0f⟩ := pw_cell HP3.out 0 (show 0 < 10 by decide); clear b3)
              go_meet
              exact ⟨_, pw_set HP3.out 0 _⟩
        case rest =>
          obtain ⟨p0, HP3⟩ := hcut
          clear HP2 hx
          have m2 := pw_mt HP3.out 2 (show 2 < 11 by decide)
          have hsz := pw_size HP3.out
          have hrz := HO.out.rel.2
          go_upto_block 0 with (go_at_call 20; refine (zzSplit_any t2 46 _ (by omega)).mono ?_; rintro e w2 ⟨v, rfl, hS, hB2⟩; obtain ⟨A, cp, rfl⟩ := strs_len hS; have HS := Lib.hid hS; have HP4 := Lib.hid (pw_below HP3.out hB2 hsz); have hpl := pieces_len 46 t2; have hsz2 := Nat.lt_of_lt_of_le hsz hB2.size; generalize hn : (pieces 46 t2).length = n at *; have HN := Lib.hid hn; clear hS hB2 hn)
          clear m2 hsz
          have HPN : Hid (∀ x ∈ pieces 46 t2, isNum (bs x) = true ∧ x.size ≤ 1048576) := fun x hx => by
            have hz := pieces_size hx
            unfold pieces at hx
            rw [List.mem_map] at hx
            obtain ⟨l, h1, rfl⟩ := hx
            obtain ⟨h2, h3⟩ := HO.out.rel.1 l h1
            rw [bs_mk]
            exact ⟨isNum_digs h2 h3, by omega⟩
          obtain ⟨g, cp2, hA, hg1, hg2, hcs⟩ := strs_cells HS.out (pieces_pos 46 t2)
          injection hA with hA1 hA2 hA3
          subst hA1
          have HWA : Hid (WordsAt w2 g (pieces 46 t2)) := hcs
          have hbg : bv < g := by have := pw_size HP3.out; omega
          clear hcs hA2 hA3
          go_cut [48] (fun _ wr => ∃ (A1 : Option Addr) (n1 c1 : Nat), Hid (Pw w wr bm bv (mtA true t1 t2 t3 t4 t5 t6 t7 t8 t9 t10) (pvA p0 A1 n1 c1 (mk []) none (mk []) none (mk []) none none 0 0 none 0 0)))
          case first =>
            as_aux_lemma =>
              go_wp2_with fail
              go_loopw [48] (fun i wr => ∃ (k : Nat) (A1 : Option Addr) (n1 c1 : Nat) (xs : List Value), i = .int .i64 k ∧ k ≤ n ∧ n1 ≤ k ∧ Hid (Pw w wr bm bv (mtA true t1 t2 t3 t4 t5 t6 t7 t8 t9 t10) (pvA p0 A1 n1 c1 (mk []) none (mk []) none (mk []) none none 0 0 none 0 0)) ∧ Hid (wr.ownsRow w2.heap.size 43 1 (.slice A1 n1 c1) n1 xs) ∧ w2.heap.size ≤ wr.heap.size ∧ Hid (WordsAt wr g (pieces 46 t2))) (fun i _ => n - (intOf i).toNat)
              case atStart => exact ⟨0, none, 0, 0, [], rfl, Nat.zero_le _, Nat.le_refl _, HP4, World.ownsRow_nil _ _ _ _, Nat.le_refl _, HWA⟩
              case round =>
                obtain ⟨k, A1, n1, c1, xs, rfl, hk, hn1, HP, HO1, hwz, HWW⟩ := hrel
                by_cases hlt : k < n
                · have hkl2 : k < (pieces 46 t2).length := by have := HN.out; omega
                  have hck := HWW.out k hkl2
                  have HX : Hid (isNum (bs ((pieces 46 t2)[k]'hkl2)) = true ∧ ((pieces 46 t2)[k]'hkl2).size ≤ 1048576) := HPN.out _ (List.getElem_mem _)
                  generalize ((pieces 46 t2)[k]'hkl2) = x at hck HX
                  have HGW := Lib.hid (gl_below HG.out HP.out.below)
                  go_wp2_with (first
                    | (go_at_call 52; refine (conv_yes x _ a ae ai au HGW.out HX.out.2 HX.out.1).mono ?_; rintro e w3 ⟨rfl, _, b3⟩; have hs3 := b3.size; have HP3b := Lib.hid (pw_below HP.out b3 (by omega)); obtain ⟨v0, v0f⟩ := pw_cell HP3b.out 1 (show 1 < 10 by decide); have HO3 := Lib.hid (row_below HO1.out b3); have HW3 := Lib.hid (wordsAt_blk HWW.out (b3.block g (by omega))); clear b3)
                    | (at_builtin; (refine app1 (w0 := w3) (W := w3) w2.heap.size rfl _ _ 47 43 (.pointer none) 1 8 rfl und47 info43 rfl (by omega) (by omega) (.slice A1 n1 c1) n1 xs #[.pointer (some ⟨wr.heap.size, 0, none⟩)] rfl rfl rfl (by simp [Value.oneCell']) HO3.out (Below.refl _ _) (by omega) (by omega) ?_); intro v1 w4 ho4 hb4 _; obtain ⟨A4, c4, rfl⟩ := row_slice ho4; have HP4b := Lib.hid (pw_below HP3b.out hb4 (by omega)); obtain ⟨z0, z0f⟩ := pw_cell HP4b.out 1 (show 1 < 10 by decide); have HP5 := Lib.hid (pw_set HP4b.out 1 (.slice A4 (n1 + 1) c4)); have HO5 := Lib.hid (row_set (k := bv) ho4 (by omega) 1 (.slice A4 (n1 + 1) c4)); have HW5 : Hid (WordsAt (w4.setCell ⟨bv, 1, none⟩ (.slice A4 (n1 + 1) c4)) g (pieces 46 t2)) := (wordsAt_blk HW3.out (by rw [Below.heap_setCell _ _ _ _ (by simp; omega)]; exact hb4.block g (by omega))); have hs4 := hb4.size; clear v0 v0f ho4 hb4))
                  go_roundw
                  case rel => exact ⟨k + 1, _, _, _, _, by go_num, by omega, by omega, HP5, HO5, by simp; omega, HW5⟩
                  case measure => simp only [intOf]; omega
                · go_wp2_with fail
                  go_meet
                  exact ⟨A1, n1, c1, HP⟩
          case rest =>
            obtain ⟨A1, n1, c1, HP5⟩ := hcut
            clear HP4 HWA HS HN HPN hpl hrz
            have mlA := pw_mt HP5.out 3 (show 3 < 11 by decide)
            have mdA := pw_mt HP5.out 4 (show 4 < 11 by decide)
            have HGWA := Lib.hid (gl_below HG.out HP5.out.below)
            have hszA := pw_size HP5.out
            go_wp2_with fail
            refine (letter_any t3 t4 100 t.size _ a ae ai au HGWA.out HO.out.prel HO.out.pren (by omega) (by omega)).mono ?_
            rintro eA wA ⟨slA, plA, rfl, bA⟩
            have HPxA := Lib.hid (pw_below HP5.out bA hszA)
            clear bA mlA mdA HP5
            go_upto_region 24 with fail
            go_cut [13] (fun _ wr => Hid (Pw w wr bm bv (mtA true t1 t2 t3 t4 t5 t6 t7 t8 t9 t10) (pvA p0 A1 n1 c1 slA plA (mk []) none (mk []) none none 0 0 none 0 0)))
            case first =>
              as_aux_lemma =>
                have HPaA : Hid (∀ o, Pw w (wA.alloc o) bm bv _ _) := fun o => pw_below HPxA.out ((Below.refl _ _).alloc (Nat.le_refl _) o) (pw_size HPxA.out)
                have vaA := fun o => (pw_cell (HPaA.out o) 2 (show 2 < 10 by decide)).1
                have vbA := fun o => (pw_cell (HPaA.out o) 3 (show 3 < 10 by decide)).1
                have vcA := fun o => (pw_cell (HPaA.out o) 2 (show 2 < 10 by decide)).2
                have vdA := fun o => (pw_cell (HPaA.out o) 3 (show 3 < 10 by decide)).2
                go_wp2_with fail
                go_meet
                exact pw_set (pw_set (HPaA.out _) 2 (.string slA)) 3 (.pointer plA)
            case rest =>
              have HP6 := hcut
              clear HPxA hcut
              have m5 := pw_mt HP6.out 5 (show 5 < 11 by decide)
              go_upto_if 85 with fail
              go_cut [15] (fun x wr => ∃ d5 : ByteArray, x = .string d5 ∧ Hid (Digs d5 t.size) ∧ Hid (Pw w wr bm bv (mtA true t1 t2 t3 t4 t5 t6 t7 t8 t9 t10) (pvA p0 A1 n1 c1 slA plA (mk []) none (mk []) none none 0 0 none 0 0)))
              case first =>
                as_aux_lemma =>
                  cases t5.toList.isEmpty
                  · go_wp2_with fail
                    go_meet
                    exact ⟨t5, rfl, HO.out.p1, HP6⟩
                  · have m6 := pw_mt HP6.out 6 (show 6 < 11 by decide)
                    go_wp2_with fail
                    go_meet
                    exact ⟨t6, rfl, HO.out.p2, HP6⟩
              case rest =>
                obtain ⟨d5, rfl, HD5, HP7⟩ := hcut
                clear HP6 m5
                have mlB := pw_mt HP7.out 7 (show 7 < 11 by decide)
                have HGWB := Lib.hid (gl_below HG.out HP7.out.below)
                have hszB := pw_size HP7.out
                go_wp2_with fail
                refine (letter_any t7 d5 100 t.size _ a ae ai au HGWB.out HO.out.pl HD5.out (by omega) (by omega)).mono ?_
                rintro eB wB ⟨slB, plB, rfl, bB⟩
                have HPxB := Lib.hid (pw_below HP7.out bB hszB)
                clear bB mlB HP7
                go_upto_region 31 with fail
                go_cut [16] (fun _ wr => Hid (Pw w wr bm bv (mtA true t1 t2 t3 t4 t5 t6 t7 t8 t9 t10) (pvA p0 A1 n1 c1 slA plA slB plB (mk []) none none 0 0 none 0 0)))
                case first =>
                  as_aux_lemma =>
                    have HPaB : Hid (∀ o, Pw w (wB.alloc o) bm bv _ _) := fun o => pw_below HPxB.out ((Below.refl _ _).alloc (Nat.le_refl _) o) (pw_size HPxB.out)
                    have vaB := fun o => (pw_cell (HPaB.out o) 4 (show 4 < 10 by decide)).1
                    have vbB := fun o => (pw_cell (HPaB.out o) 5 (show 5 < 10 by decide)).1
                    have vcB := fun o => (pw_cell (HPaB.out o) 4 (show 4 < 10 by decide)).2
                    have vdB := fun o => (pw_cell (HPaB.out o) 5 (show 5 < 10 by decide)).2
                    go_wp2_with fail
                    go_meet
                    exact pw_set (pw_set (HPaB.out _) 4 (.string slB)) 5 (.pointer plB)
                case rest =>
                  have HP8 := hcut
                  clear HPxB hcut
                  have mlC := pw_mt HP8.out 8 (show 8 < 11 by decide)
                  have mdC := pw_mt HP8.out 9 (show 9 < 11 by decide)
                  have HGWC := Lib.hid (gl_below HG.out HP8.out.below)
                  have hszC := pw_size HP8.out
                  go_wp2_with fail
                  refine (letter_any t8 t9 100 t.size _ a ae ai au HGWC.out HO.out.dl HO.out.dn (by omega) (by omega)).mono ?_
                  rintro eC wC ⟨slC, plC, rfl, bC⟩
                  have HPxC := Lib.hid (pw_below HP8.out bC hszC)
                  clear bC mlC mdC HP8
                  go_upto_region 35 with fail
                  go_cut [17] (fun _ wr => Hid (Pw w wr bm bv (mtA true t1 t2 t3 t4 t5 t6 t7 t8 t9 t10) (pvA p0 A1 n1 c1 slA plA slB plB slC plC none 0 0 none 0 0)))
                  case first =>
                    as_aux_lemma =>
                      have HPaC : Hid (∀ o, Pw w (wC.alloc o) bm bv _ _) := fun o => pw_below HPxC.out ((Below.refl _ _).alloc (Nat.le_refl _) o) (pw_size HPxC.out)
                      have vaC := fun o => (pw_cell (HPaC.out o) 6 (show 6 < 10 by decide)).1
                      have vbC := fun o => (pw_cell (HPaC.out o) 7 (show 7 < 10 by decide)).1
                      have vcC := fun o => (pw_cell (HPaC.out o) 6 (show 6 < 10 by decide)).2
                      have vdC := fun o => (pw_cell (HPaC.out o) 7 (show 7 < 10 by decide)).2
                      go_wp2_with fail
                      go_meet
                      exact pw_set (pw_set (HPaC.out _) 6 (.string slC)) 7 (.pointer plC)
                  case rest =>
                    have HP9 := hcut
                    clear HPxC hcut
                    have m10 := pw_mt HP9.out 10 (show 10 < 11 by decide)
                    have hsz9 := pw_size HP9.out
                    have hz10 := HO.out.loc.size
                    go_wp2_with fail
                    refine (parseLocal_any t10 _ (by omega) HO.out.loc.asc).mono ?_
                    rintro e w9 ⟨A8, n8, c8, rfl, b9⟩
                    have HPy := Lib.hid (pw_below HP9.out b9 hsz9)
                    obtain ⟨v8, v8f⟩ := pw_cell HPy.out 8 (show 8 < 10 by decide)
                    have HPz : Hid (Pw w (w9.setCell ⟨bv, 8, none⟩ (.slice A8 n8 c8)) bm bv (mtA true t1 t2 t3 t4 t5 t6 t7 t8 t9 t10) (pvA p0 A1 n1 c1 slA plA slB plB slC plC A8 n8 c8 none 0 0)) := pw_set HPy.out 8 (.slice A8 n8 c8)
                    clear b9 m10 HP9
                    go_upto_region 37 with fail
                    have HRG : Hid ((w9.setCell ⟨bv, 8, none⟩ (.slice A8 n8 c8)).rangeAt bv 0 [.pointer p0, .slice A1 n1 c1, .string slA, .pointer plA, .string slB, .pointer plB, .string slC, .pointer plC, .slice A8 n8 c8, .slice none 0 0]) := range_blk HPz.out.v
                    have HTZ : Hid ((w9.setCell ⟨bv, 8, none⟩ (.slice A8 n8 c8)).there w.heap.size 0 10) := there_of (n := 10) HPz.out.zz (Nat.le_refl 10)
                    have HBZ := Lib.hid HPz.out.below
                    obtain ⟨d, hd1, hd2⟩ := und67
                    have HDD1 := Lib.hid hd1
                    have HDD2 := Lib.hid hd2
                    clear hd1 hd2 v8 v8f HPz
                    go_wp2_with (first
                      | (refine wpList_load_mid rfl 67 _ rfl bv 0 rfl [.pointer p0, .slice A1 n1 c1, .string slA, .pointer plA, .string slB, .pointer plB, .string slC, .pointer plC, .slice A8 n8 c8, .slice none 0 0] d HRG.out HDD1.out HDD2.out inf67 ?_)
                      | (refine wpList_store_mid rfl 67 _ _ rfl w.heap.size 0 _ rfl rfl HTZ.out inf67 (pyp_ones _ _ _ _ _ _ _ _ _ _ _ _ _ _ _ _) ?_))
                    refine bodyPost_ret (res_cell_tmp (cs := [.pointer p0, .slice A1 n1 c1, .string slA, .pointer plA, .string slB, .pointer plB, .string slC, .pointer plC, .slice A8 n8 c8, .slice none 0 0]) Tryz.results31 rfl (World.rangeAt_setCells_same _ w.heap.size 0 _ HTZ.out) HDD1.out HDD2.out inf67) rfl ?_
                    exact ⟨_, rfl, below_setCells (Nat.le_refl _) _ _ HBZ.out⟩
end Go.Proofs.YtoofphhfealcaaaGreatDoor
