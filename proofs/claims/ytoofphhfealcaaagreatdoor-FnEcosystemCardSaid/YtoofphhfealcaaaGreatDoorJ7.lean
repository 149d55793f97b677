/-
  WALKS: Maven's versions, at texts of ASCII: newMavenVersion.
  WALKS: Maven's versions, at texts of ASCII: ParseMavenVersion.
-/
import Derived.Test.YtoofphhfealcaaaGreatDoorJ5
namespace Go.Proofs.YtoofphhfealcaaaGreatDoor
open Go.RowKit

theorem strs_at {w : World} {base c : Nat} {A : Option Addr} {l : List ByteArray} (h : Strs w base (.slice A l.length c) l) (h0 : 0 < l.length) : ∃ g, A = some ⟨g, 0, none⟩ ∧ ∀ k (h : k < l.length), w.cell? ⟨g, k, none⟩ = some (.string l[k]) := by
  rcases h.2 with ⟨h1, h2⟩ | ⟨g, cap, cur, h1, hb, hh, _⟩
  · omega
  · injection h1 with h1 h2 h3
    subst h1
    refine ⟨g, rfl, fun k hk => ?_⟩
    rw [World.ownsRow.cellAt h k (by simpa using hk)]
    simp [hk]
theorem inf59 : (Tryz.prog.info? 59).map (·.size) = some 1 := by kernel_rfl
theorem und59 : ∃ d, Tryz.prog.underlying 59 = some d ∧ d.isRow = true := row_of (by kernel_rfl)
theorem tks_at {w : World} {base c : Nat} {A : Option Addr} {l : List (ByteArray × ByteArray)} (h : Tks w base (.slice A l.length c) l) (h0 : 0 < l.length) : ∃ g, A = some ⟨g, 0, none⟩ ∧ ∀ k (h : k < l.length), w.cell? ⟨g, k * 3, none⟩ = some (.string l[k].1) ∧ w.cell? ⟨g, k * 3 + 1, none⟩ = some (.string l[k].2) := by
  rcases h.2 with ⟨h1, h2⟩ | ⟨g, cap, cur, h1, hb, hh, _⟩
  · omega
  · injection h1 with h1 h2 h3
    subst h1
    refine ⟨g, rfl, fun k hk => ?_⟩
    obtain ⟨t1, t2, _⟩ := tkc_get l k hk
    have c1 := World.ownsRow.cells h (g := g) rfl _ _ t1
    have c2 := World.ownsRow.cells h (g := g) rfl _ _ t2
    rw [Addr.add_lit] at c1 c2
    exact ⟨by simpa using c1, by simpa using c2⟩
set_option maxRecDepth 100000 in
set_option maxHeartbeats 8000000 in
theorem newMaven_any (n0 : Nat) (hSO : StrOK n0) (s : ByteArray) (w : World) (a ae ai au : Addr) (hG : Gl w a ae ai au) (hs : s.size ≤ 262144) (hn : s.size ≤ n0) (h9 : 9 ≤ n0) (hn0 : n0 ≤ 1048576) (ha : Asc (bs s)) : Calls Tryz.prog 53 #[.string s] w fun e w' => (∃ (A : Option Addr) (n c : Nat), e = .returned (.agg #[.slice A n c])) ∧ Below w.heap.size w w' := by
  have HA := Lib.hid ha
  have HG := Lib.hid hG
  have HSO := Lib.hid hSO
  have hw20 := hG.size
  have HP : Hid (Asc (bs (mk [45, 46]))) := by show ∀ b ∈ bs (mk [45, 46]), b.toNat < 128; decide
  clear ha hG hSO
  go_enter Tryz.func53, Tryz.ntmps53
  go_wp2_with fail
  refine (splitChars_any s (mk [45, 46]) _ (by omega) HA.out HP.out).mono ?_
  rintro e w1 ⟨V, ls, rfl, hs1, hn1, ha1, hb1⟩
  obtain ⟨A, c, rfl⟩ := row_slice hs1
  have hw1 := hb1.size
  simp at hw1
  have HLS := Lib.hid ha1
  have HM : Hid (Nm w w1 (w.heap.size + 1) w1.heap.size (.slice A ls.length c) ls (.slice none 0 0) []) := by
    refine ⟨by simpa using hs1, fun g hg => (World.ownsRow.lt hs1 g hg).2, World.ownsRow_nil _ _ _ _, kept_blk (w := w) (o := .cells #[.slice none 0 0] 59) (by rw [World.size_alloc] at hb1; exact hb1), (((Below.refl w.heap.size w).alloc (Nat.le_refl _) _).trans (hb1.mono (by simp))), by omega, by omega, Nat.le_refl _⟩
  clear hs1 hb1 ha1
  go_wp2_with fail
  go_loopw [3, 6] (fun v i wr => ∃ (k : Nat) (l : List (ByteArray × ByteArray)) (A1 : Option Addr) (c1 : Nat), i = .int .i64 k ∧ v = .slice A1 l.length c1 ∧ k ≤ ls.length + 1 ∧ l.length ≤ k * 600000 ∧ Hid (Nm w wr (w.heap.size + 1) w1.heap.size (.slice A ls.length c) ls (.slice A1 l.length c1) l))
    (fun _ i _ => ls.length - (intOf i).toNat)
  case atStart => exact ⟨0, [], none, 0, rfl, rfl, by omega, by simp, HM⟩
  case round =>
    obtain ⟨k, l, A1, c1, rfl, rfl, hk, hl, HN⟩ := hrel
    by_cases hlt : k < ls.length
    · obtain ⟨gp, rfl, hS⟩ := strs_at HN.out.ps (by omega)
      have hck := hS k hlt
      go_upto_if 24 with fail
      go_cut [5] (fun p wx => ∃ t, p = .string t ∧ wx = wr)
      case first =>
        as_aux_lemma =>
          by_cases hk0 : k = 0
          · have e0 : ((k : Int) == 0) = true := by simp [hk0]
            have e1 : (k : Int) = 0 := by omega
            clear hck hS
            go_wp2_with fail
            go_meet
            exact ⟨_, rfl, rfl⟩
          · obtain ⟨k, rfl⟩ := Nat.exists_eq_succ_of_ne_zero hk0
            have hck2 := hS k (by omega)
            go_wp2_with fail
            go_meet
            exact ⟨_, rfl, rfl⟩
      case rest =>
        obtain ⟨pf, rfl, rfl⟩ := hcut
        have hz1 := (HLS.out _ (List.getElem_mem hlt)).size
        have hw3 := HN.out.below.size
        go_upto_region 11 with (go_at_call 84; (refine (findTr_any (ls[k]'hlt) _ (by omega) (HLS.out _ (List.getElem_mem hlt)).asc).mono ?_); rintro e w3 ⟨A3, c3, zs0, rfl, hi3, hr3, hp3, hl3, hb3⟩)
        have hw4 := hb3.size
        have e4 : ls.length ≤ 524289 := by omega
        have HN3 : Hid (Nm w w3 (w.heap.size + 1) w1.heap.size (.slice (some ⟨gp, 0, none⟩) ls.length c) ls (.slice A1 l.length c1) l) := nm_below HN.out hb3
        have HT3 : Hid (Nt w3 wc.heap.size w3.heap.size (.slice A3 zs0.length c3) zs0 (.slice A1 l.length c1)) := ⟨hi3, fun g hg => (World.ownsRow.lt hi3 g hg).2, fun g hg => .inl (World.ownsRow.lt HN.out.tk g hg).2, Nat.le_refl _⟩
        have HZ3 := Lib.hid hr3
        have HP3 := Lib.hid hp3
        have hck3 : w3.cell? ⟨gp, k, none⟩ = some (.string (ls[k]'hlt)) := by
          obtain ⟨g2, hg2, hS2⟩ := strs_at HN3.out.ps (by omega)
          injection hg2 with hg2
          injection hg2 with hg2
          subst hg2
          exact hS2 k hlt
        have hB3 := Lib.hid hb3
        clear hi3 hr3 hp3 hb3 hck hS
        go_upto_region 12 with (at_builtin; (refine app_int (W := w3) wc.heap.size rfl _ _ rfl _ zs0 ((ls[k]'hlt).size : Int) HT3.out.ints rfl rfl (by omega) (by omega) ?_); intro v4 w4 hi4 hg4 hv4)
        obtain ⟨zs, hi, hzl, hzr, hzp⟩ : ∃ zs : List Int, Ins w4 wc.heap.size v4 zs ∧ zs.length ≤ 524289 ∧ (∀ z ∈ zs, 0 ≤ z ∧ z ≤ ((ls[k]'hlt).size : Int)) ∧ zs.Pairwise (· ≤ ·) := by
          refine ⟨_, hi4, by simp; omega, fun z hz => ?_, ?_⟩
          · rw [List.mem_append, List.mem_singleton] at hz
            rcases hz with hz | rfl
            · exact HZ3.out z hz
            · omega
          · rw [List.pairwise_append]
            refine ⟨HP3.out, List.pairwise_singleton _ _, fun x hx y hy => ?_⟩
            rw [List.mem_singleton] at hy
            subst hy
            exact (HZ3.out x hx).2
        have hB : Below wc.heap.size wc w4 := hB3.out.trans ⟨hg4.os, hg4.tape, hg4.output, hg4.size, fun k hk => hg4.block k (Nat.lt_of_lt_of_le hk hB3.out.size) (fun e => by have := (World.ownsRow.lt HT3.out.ints k e.symm).1; omega)⟩
        have hw5 := hB.size
        obtain ⟨A4, c4, rfl⟩ := ins_len hi
        have HN4 : Hid (Nm w w4 (w.heap.size + 1) w1.heap.size (.slice (some ⟨gp, 0, none⟩) ls.length c) ls (.slice A1 l.length c1) l) := nm_below HN.out hB
        have HT4 : Hid (Nt w4 wc.heap.size w4.heap.size (.slice A4 zs.length c4) zs (.slice A1 l.length c1)) := ⟨hi, fun g hg => (World.ownsRow.lt hi g hg).2, fun g hg => .inl (World.ownsRow.lt HN.out.tk g hg).2, Nat.le_refl _⟩
        have HZ4 := Lib.hid hzr
        have HP4 := Lib.hid hzp
        clear hi4 hg4 hv4 hi hzr hzp hB HN HN3 HT3 HZ3 HP3 hck3 HM hB3
        go_wp2_with fail
        go_loopw [3, 5, 8, 45] (fun v s5 pv q wr => ∃ (j p : Nat) (pf1 : ByteArray) (l1 : List (ByteArray × ByteArray)) (A5 : Option Addr) (c5 : Nat), q = .int .i64 j ∧ s5 = .string pf1 ∧ pv = .int .i64 p ∧ v = .slice A5 l1.length c5 ∧ j ≤ zs.length ∧ l1.length ≤ k * 600000 + j ∧ Hid (∀ i (h : i < zs.length), j ≤ i → (p : Int) ≤ zs[i]) ∧ Hid (Nm w wr (w.heap.size + 1) w1.heap.size (.slice (some ⟨gp, 0, none⟩) ls.length c) ls (.slice A5 l1.length c5) l1) ∧ Hid (Nt wr wc.heap.size w4.heap.size (.slice A4 zs.length c4) zs (.slice A5 l1.length c5)))
          (fun _ _ _ q _ => zs.length - (intOf q).toNat)
        case atStart => exact ⟨0, 0, _, l, A1, c1, rfl, rfl, rfl, rfl, Nat.zero_le _, (by rw [Nat.add_zero]; exact hl), fun i h _ => (HZ4.out _ (List.getElem_mem h)).1, HN4, HT4⟩
        case round =>
          obtain ⟨j, p, pf1, l1, A5, c5, rfl, rfl, rfl, rfl, hj, hl1, HO, HNr, HTr⟩ := hrel
          by_cases hjz : j < zs.length
          · obtain ⟨zn, hzn⟩ : ∃ zn : Nat, zs[j] = (zn : Int) := ⟨zs[j].toNat, by have := (HZ4.out _ (List.getElem_mem hjz)).1; omega⟩
            have hzn2 := (HZ4.out _ (List.getElem_mem hjz)).2
            have hpz := HO.out j hjz (Nat.le_refl _)
            rw [hzn] at hzn2 hpz
            have HO2 : Hid (∀ i (h : i < zs.length), j + 1 ≤ i → ((zn : Nat) : Int) ≤ zs[i]) := fun i h hi => by
              rw [← hzn]
              exact List.pairwise_iff_getElem.1 HP4.out j i hjz h (by omega)
            have hck4 : wr.cell? ⟨gp, k, none⟩ = some (.string (ls[k]'hlt)) := by
              obtain ⟨g2, hg2, hS2⟩ := strs_at HNr.out.ps (by omega)
              injection hg2 with hg2
              injection hg2 with hg2
              subst hg2
              exact hS2 k hlt
            obtain ⟨g4, hg4, hck5⟩ : ∃ g4, A4 = some ⟨g4, 0, none⟩ ∧ wr.cell? ⟨g4, j, none⟩ = some (.int .i64 (zn : Int)) := by
              rcases HTr.out.ints.2 with ⟨h1, h2⟩ | ⟨g, cap, cur, h1, _⟩
              · omega
              · injection h1 with h1 h2 h3
                refine ⟨g, h1, ?_⟩
                subst h1
                rw [World.ownsRow.cellAt HTr.out.ints j (by simpa using hjz)]
                simp [hjz, hzn]
            subst hg4
            have hwr := HNr.out.below.size
            clear HO
            go_upto_if 51 with fail
            go_cut [5] (fun t wx => ∃ pf2, t = .string pf2 ∧ wx = wr)
            case first =>
              as_aux_lemma =>
                by_cases hj0 : j = 0
                · have e0 : (j : Int) = 0 := by omega
                  clear hck4 hck5
                  go_wp2_with fail
                  go_meet
                  exact ⟨_, rfl, rfl⟩
                · have e0 : (0 : Int) < (j : Int) := by omega
                  clear hck4 hck5
                  go_wp2_with fail
                  go_meet
                  exact ⟨_, rfl, rfl⟩
            case rest =>
              obtain ⟨pf2, rfl, rfl⟩ := hcut
              have hss := fun W => slice_ss (ls[k]'hlt) p zn (by omega) (by omega) (p : Int) (zn : Int) rfl rfl W
              go_upto_region 19 with (go_at_call 55; (refine (toLower_any ((ls[k]'hlt).extract p zn) _ (by simp; omega) (asc_ext (HLS.out _ (List.getElem_mem hlt)).asc _ _)).mono ?_); rintro e w6 ⟨t, rfl, ht, b6⟩)
              have HB6 := Lib.hid b6
              have hw6 := b6.size
              have HN6 := Lib.hid (nm_below HNr.out b6)
              have HT6 := Lib.hid (nt_below HTr.out b6)
              have hck6 : w6.cell? ⟨gp, k, none⟩ = some (.string (ls[k]'hlt)) := by
                obtain ⟨g2, hg2, hS2⟩ := strs_at HN6.out.ps (by omega)
                injection hg2 with hg2
                injection hg2 with hg2
                subst hg2
                exact hS2 k hlt
              have hts : t.size ≤ n0 := by have := ht.size; simp at this; omega
              have HT := Lib.hid ht
              clear ht b6 hss hck4 hck5 HNr HTr HB6
              go_upto_if 61 with fail
              go_cut [11] (fun v wx => ∃ t, v = .string t ∧ t.size ≤ n0 ∧ wx = w6)
              case first =>
                as_aux_lemma =>
                  go_wp2_with fail
                  all_goals (go_meet; exact ⟨_, rfl, by first | assumption | exact Nat.le_trans (by decide) h9, rfl⟩)
              case rest =>
                obtain ⟨t1, rfl, ht1, rfl⟩ := hcut
                go_upto_if 63 with fail
                go_cut [11] (fun v wx => ∃ t, v = .string t ∧ t.size ≤ n0 ∧ wx = wc)
                case first =>
                  as_aux_lemma =>
                    go_wp2_with fail
                    all_goals (go_meet; exact ⟨_, rfl, by first | assumption | exact Nat.le_trans (by decide) h9, rfl⟩)
                case rest =>
                  obtain ⟨t2, rfl, ht2, rfl⟩ := hcut
                  go_upto_region 23 with fail
                  go_cut [73] (fun v wx => ∃ t : Bool, v = .bool t ∧ wx = wc)
                  case first =>
                    as_aux_lemma =>
                      go_wp2_with fail
                      all_goals (go_meet; exact ⟨_, rfl, rfl⟩)
                  case rest =>
                    obtain ⟨bt, rfl, rfl⟩ := hcut
                    go_upto_if 73 with fail
                    go_cut [11] (fun v wx => ∃ t, v = .string t ∧ t.size ≤ n0 ∧ wx = wc)
                    case first =>
                      as_aux_lemma =>
                        cases bt
                        all_goals (go_wp2_with fail; go_meet; exact ⟨_, rfl, by first | assumption | exact Nat.le_trans (by decide) h9, rfl⟩)
                    case rest =>
                      obtain ⟨t3, rfl, ht3, rfl⟩ := hcut
                      go_upto_if 80 with fail
                      go_cut [11] (fun v wx => ∃ t, v = .string t ∧ t.size ≤ n0 ∧ wx = wc)
                      case first =>
                        as_aux_lemma =>
                          go_wp2_with fail
                          all_goals (go_meet; exact ⟨_, rfl, by first | assumption | exact Nat.le_trans (by decide) h9, rfl⟩)
                      case rest =>
                        obtain ⟨t4, rfl, ht4, rfl⟩ := hcut
                        have HGW := Lib.hid (gl_below HG.out HN6.out.below)
                        have hw7 := HN6.out.below.size
                        cases hnum : isNum (bs t4) <;> have HNUM := Lib.hid hnum <;> clear hnum
                        · go_upto_if 93 with (go_at_call 52; (refine (conv_no t4 _ a ae ai au HGW.out (by omega) HNUM.out).mono ?_); rintro e w7 ⟨rfl, b7⟩)
                          have HN7 := Lib.hid (nm_below HN6.out b7)
                          have HT7 := Lib.hid (nt_below HT6.out b7)
                          clear b7
                          go_wp2_with (at_builtin; (refine app_tok (W := w7) w1.heap.size rfl _ _ rfl _ l1 pf2 t4 HN7.out.tk rfl rfl HN7.out.sz.2.2 (by omega) ?_); intro v8 w8 ht8 hg8 hv8; have HN8 := Lib.hid (nm_tok HN7.out ht8 hg8); have HT8 := Lib.hid (nt_tok HT7.out hg8 hv8 (by have := HT7.out.sz; omega)); obtain ⟨A8, c8, rfl⟩ := row_slice ht8; clear ht8 hg8 hv8)
                          go_roundw
                          case rel => exact ⟨j + 1, zn, _, l1 ++ [(pf2, t4)], A8, c8, by go_num, rfl, rfl, by simp, by omega, by simp; omega, HO2, HN8, HT8⟩
                          case measure => simp [intOf]; omega
                        · go_upto_if 93 with (go_at_call 52; (refine (conv_yes t4 _ a ae ai au HGW.out (by omega) HNUM.out).mono ?_); rintro e w7 ⟨rfl, bg7, b7⟩)
                          have HGY := Lib.hid (gl_below HG.out (HN6.out.below.trans (b7.mono hw7)))
                          have HBG := Lib.hid bg7
                          have HBY := Lib.hid b7
                          have hwy := b7.size
                          clear b7 bg7
                          go_wp2_with (first
                            | (go_at_call 85; (refine (HSO.out w7 _ _ t4 a ae ai au HGY.out HBG.out HNUM.out ht4).mono ?_); rintro e wy ⟨t5, rfl, b8⟩; have HN7 := Lib.hid (nm_below HN6.out (HBY.out.trans (b8.mono hwy))); have HT7 := Lib.hid (nt_below HT6.out (HBY.out.trans (b8.mono hwy))); clear b8)
                            | (at_builtin; (refine app_tok (W := wy) w1.heap.size rfl _ _ rfl _ l1 pf2 t5 HN7.out.tk rfl rfl HN7.out.sz.2.2 (by omega) ?_); intro v8 w8 ht8 hg8 hv8; have HN8 := Lib.hid (nm_tok HN7.out ht8 hg8); have HT8 := Lib.hid (nt_tok HT7.out hg8 hv8 (by have := HT7.out.sz; omega)); obtain ⟨A8, c8, rfl⟩ := row_slice ht8; clear ht8 hg8 hv8))
                          go_roundw
                          case rel => exact ⟨j + 1, zn, _, l1 ++ [(pf2, t5)], A8, c8, by go_num, rfl, rfl, by simp, by omega, by simp; omega, HO2, HN8, HT8⟩
                          case measure => simp [intOf]; omega
          · go_wp2_with fail
            go_roundw
            case rel => exact ⟨k + 2, l1, A5, c5, by go_num, rfl, by omega, by omega, HNr⟩
            case measure => simp [intOf]; omega
    · obtain ⟨NB, hNB, hlb⟩ : ∃ NB : Nat, NB ≤ 1099511627775 ∧ l.length ≤ NB := ⟨l.length, by omega, Nat.le_refl _⟩
      clear hl
      go_wp2_with fail
      go_loopw [3, 14] (fun v i wr => ∃ (l : List (ByteArray × ByteArray)) (A5 : Option Addr) (c5 : Nat) (iv : Int), v = .slice A5 l.length c5 ∧ i = .int .i64 iv ∧ -2 ≤ iv ∧ iv < l.length ∧ l.length ≤ NB ∧ Hid (Nm w wr (w.heap.size + 1) w1.heap.size (.slice A ls.length c) ls (.slice A5 l.length c5) l))
        (fun _ i _ => (intOf i + 2).toNat)
      case atStart => exact ⟨l, A1, c1, _, rfl, rfl, by omega, by omega, hlb, HN⟩
      case round =>
        obtain ⟨l3, A3, c3, iv, rfl, rfl, hi0, hi1, hl3, HN3⟩ := hrel
        by_cases hpos : 0 < iv
        · obtain ⟨i, rfl⟩ : ∃ i : Nat, iv = (i : Int) := ⟨iv.toNat, by omega⟩
          obtain ⟨iN, hiN⟩ : ∃ n : Nat, n = i := ⟨i, rfl⟩
          obtain ⟨g, rfl, hT⟩ := tks_at HN3.out.tk (by omega)
          have hil : i < l3.length := by omega
          obtain ⟨c0, c1'⟩ := hT i hil
          clear hT
          go_upto_if 112 with (go_at_call 86; (refine (shouldTrim_any g (i * 3) (l3[i]'hil).2 _ c1').mono ?_); rintro e w' ⟨⟨b, rfl⟩, rfl⟩)
          go_cut [3, 14] (fun v i wx => ∃ (l : List (ByteArray × ByteArray)) (A5 : Option Addr) (c5 : Nat) (iv : Int), v = .slice A5 l.length c5 ∧ i = .int .i64 iv ∧ 0 ≤ iv ∧ iv < l.length ∧ (iN : Int) - 1 ≤ iv ∧ iv ≤ (iN : Int) ∧ l.length ≤ NB ∧ Hid (Nm w wx (w.heap.size + 1) w1.heap.size (.slice A ls.length c) ls (.slice A5 l.length c5) l))
          case first =>
            · skip
              have hcl : l3.length ≤ c3 := by
                rcases HN3.out.tk.2 with ⟨h1, _⟩ | ⟨g', c', cur, h1, hb, hh, h2, _⟩
                · cases h1
                · injection h1 with h1 h6 h7
                  omega
              have e2 : IntKind.i64.wrap ((i : Int) - 1) = (i : Int) - 1 := IntWalk.i64_in _ (by omega)
              cases b
              · go_wp2_with fail
                go_meet
                exact ⟨l3, _, c3, (i : Int), rfl, rfl, by omega, by omega, by omega, by omega, hl3, HN3⟩
              · have h1 := fun W => slice_tkhi g l3.length c3 i (by omega) W
                have h2 := fun W => slice_tklo g l3.length c3 (i + 1) (by omega) ((i : Int) + 1) (by omega) W
                have e1 : IntKind.i64.wrap ((i : Int) + 1) = (i : Int) + 1 := IntWalk.i64_in _ (by omega)
                have HND : Hid (Nm w wr.drew (w.heap.size + 1) w1.heap.size (.slice A ls.length c) ls (.slice (some ⟨g, 0, none⟩) l3.length c3) l3) := nm_below HN3.out (Below.refl _ _).drew
                have hbs := HND.out.sz
                go_upto_region 41 with fail
                go_region_law ((refine step_tok (base := w1.heap.size) rfl (.tmp 115) (.tmp 119) rfl l3 g c3 i HND.out.tk hil (by first | (simp [Act.eval]; done) | simp [Act.eval, Act.put]) (by first | (simp [Act.eval]; done) | simp [Act.eval, Act.put]) hbs.2.2 (by omega) ?_; intro v2 w2 hs3 hg3))
                have hlen : (l3.take i ++ l3.drop (i + 1)).length = l3.length - 1 := by simp; omega
                generalize l3.take i ++ l3.drop (i + 1) = l5 at hs3 hlen
                have HN8 := Lib.hid (nm_tok HND.out hs3 hg3)
                obtain ⟨A8, c8, rfl⟩ := row_slice hs3
                clear hs3 hg3
                go_wp2_with fail
                have hl5 : (i : Int) - 1 < l5.length := by omega
                have hl6 : l5.length ≤ NB := by omega
                clear h1 h2
                refine ⟨⟨l5, A8, c8, (i : Int) - 1, (by rw [hlen]), rfl, by omega, hl5, hl6, HN8⟩, ?_⟩
                simp [intOf]
                omega
          case rest =>
            obtain ⟨l4, A4, c4, jv, rfl, rfl, hj0, hj1, hj2, hj3, hl4, HN4⟩ := hcut
            go_upto_region 43 with fail
            have hcl4 : l4.length ≤ c4 := by
              rcases HN4.out.tk.2 with ⟨h1, h2⟩ | ⟨g', c', cur, h1, hb, hh, h2, _⟩
              · omega
              · injection h1 with h1 h6 h7
                omega
            go_loopw [14] (fun i wx => ∃ qv : Int, i = .int .i64 qv ∧ -1 ≤ qv ∧ qv ≤ jv ∧ wx = wc) (fun i _ => (intOf i + 1).toNat)
            case atStart => exact ⟨jv, rfl, by omega, Int.le_refl _, rfl⟩
            case round =>
              obtain ⟨qv, rfl, hq0, hq1, rfl⟩ := hrel
              by_cases hq : 0 ≤ qv
              · obtain ⟨q, rfl⟩ := Int.eq_ofNat_of_zero_le hq
                obtain ⟨g2, rfl, hT2⟩ := tks_at HN4.out.tk (by omega)
                have hql : q < l4.length := by omega
                have hcq := (hT2 q hql).1
                have e3 : IntKind.i64.wrap ((q : Int) - 1) = (q : Int) - 1 := IntWalk.i64_in _ (by omega)
                clear hT2
                go_wp2_with fail
                · go_round
                  case rel => exact ⟨(q : Int) - 1, rfl, by omega, by omega, trivial⟩
                  case measure => simp [intOf] <;> omega
                · refine ⟨⟨l4, _, c4, (q : Int) - 1, rfl, rfl, by omega, by omega, hl4, HN4⟩, ?_⟩
                  simp [intOf]
                  omega
              · have e3 : IntKind.i64.wrap (qv - 1) = qv - 1 := IntWalk.i64_in _ (by omega)
                go_wp2_with fail
                refine ⟨⟨l4, A4, c4, qv - 1, rfl, rfl, by omega, by omega, hl4, HN4⟩, ?_⟩
                simp [intOf]
                omega
        · have HR : Hid (wr.there w.heap.size 0 1) := there_of HN3.out.res (Nat.le_refl 1)
          have HB := Lib.hid HN3.out.below
          go_wp2_with (refine wpList_store_mid rfl 59 _ _ rfl w.heap.size 0 _ rfl rfl HR.out inf59 (by simp [Value.oneCell']) ?_)
          obtain ⟨d, hd1, hd2⟩ := und59
          refine bodyPost_ret (res_cell1 (cs := [.slice A3 l3.length c3]) Tryz.results53 rfl (World.rangeAt_setCells_same _ w.heap.size 0 _ HR.out) hd1 hd2 inf59) rfl ?_
          exact ⟨⟨_, _, _, rfl⟩, below_setCells (Nat.le_refl _) _ _ HB.out⟩
end Go.Proofs.YtoofphhfealcaaaGreatDoor

namespace Go.Proofs.YtoofphhfealcaaaGreatDoor
open Go.RowKit

set_option maxRecDepth 100000 in
set_option maxHeartbeats 4000000 in
theorem parseMaven_any (n0 : Nat) (hSO : StrOK n0) (s : ByteArray) (w : World) (a ae ai au : Addr) (hG : Gl w a ae ai au) (hs : s.size ≤ 262144) (hn : s.size ≤ n0) (h9 : 9 ≤ n0) (hn0 : n0 ≤ 1048576) (ha : Asc (bs s)) : Calls Tryz.prog 27 #[.string s] w (AggPost w) := by
  have HA := Lib.hid ha
  have HSO := Lib.hid hSO
  have HG1 := Lib.hid (gl_of hG ((Below.refl _ _).alloc (Nat.le_refl _) (.cells #[.slice none 0 0] 59)))
  have hw20 := hG.size
  clear ha hG hSO
  go_enter Tryz.func27, Tryz.ntmps27
  go_wp2_with (go_at_call 53; go_loud (refine (newMaven_any n0 HSO.out s _ a ae ai au HG1.out hs hn h9 hn0 HA.out).mono ?_); rintro e w1 ⟨⟨A, m, c, rfl⟩, hB⟩; obtain ⟨hc1, hf1⟩ := bcell hB; have HB := Lib.hid hB; have hsz := hB.size; simp at hsz; clear hB)
  refine bodyPost_ret (by simp [results, Tryz.results27, go_sem, *]; try rfl) rfl ?_
  refine ⟨⟨_, rfl⟩, ?_⟩
  refine Below.setCell ?_ (by simp) _
  exact ((Below.refl w.heap.size w).alloc (Nat.le_refl _) _).trans (HB.out.mono (by simp))
end Go.Proofs.YtoofphhfealcaaaGreatDoor
