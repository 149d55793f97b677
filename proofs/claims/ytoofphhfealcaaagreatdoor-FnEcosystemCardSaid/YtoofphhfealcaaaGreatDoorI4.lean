/-
  WALKS: PyPI's versions, at texts of ASCII: the match of PEP 440's expression.
-/
import Derived.Test.YtoofphhfealcaaaGreatDoorI3
import Derived.Deep.DeepCutAuto
import Derived.Deep.CutBlock
namespace Go.Proofs.YtoofphhfealcaaaGreatDoor
open Go.RowKit

theorem cutBy_app (p : UInt8 → Bool) (c : UInt8) (hc : p c = true) : ∀ a b : List UInt8, cutBy p (a ++ c :: b) = cutBy p a ++ cutBy p b
  | [], b => by simp [cutBy, hc]
  | x :: r, b => by
    have ih := cutBy_app p c hc r b
    rw [List.cons_append, cutBy, cutBy, ih]
    split
    · simp
    · have hne := cutBy_ne p r
      cases h : cutBy p r with
      | nil => exact absurd h hne
      | cons y t => simp
/-- Numbers with points between. -/
def RelOK (l : List UInt8) : Prop := ∀ x ∈ cutBy (· == 46) l, x ≠ [] ∧ ∀ c ∈ x, isDig c = true
theorem relOK_digs {l : List UInt8} (h0 : l ≠ []) (h : ∀ c ∈ l, isDig c = true) : RelOK l := by
  intro x hx
  rw [cutBy_none _ l (fun c hc => by
    have := h c hc
    rw [beq_eq_false_iff_ne]
    rintro rfl
    revert this; decide)] at hx
  rw [List.mem_singleton] at hx
  subst hx
  exact ⟨h0, h⟩
theorem relOK_app {a b : List UInt8} (ha : RelOK a) (hb : RelOK b) : RelOK (a ++ 46 :: b) := by
  intro x hx
  rw [cutBy_app _ 46 (by rfl), List.mem_append] at hx
  rcases hx with hx | hx
  · exact ha x hx
  · exact hb x hx
theorem ext_split (s : ByteArray) (a e j : Nat) (h1 : a ≤ e) (h2 : e + 1 ≤ j) (_h3 : j ≤ s.size) (h4 : e < s.size) (hc : (s[e]'h4) = 46) : bs (s.extract a j) = bs (s.extract a e) ++ 46 :: bs (s.extract (e + 1) j) := by
  rw [bs_extract, bs_extract, bs_extract]
  have hl : e < (bs s).length := by rw [bs_len]; exact h4
  have hg : (bs s)[e]'hl = 46 := by rw [← bs_get s e h4]; exact hc
  have e1 : (bs s).drop e = 46 :: (bs s).drop (e + 1) := by rw [List.drop_eq_getElem_cons hl, hg]
  have e2 : ((bs s).drop a).drop (e - a) = (bs s).drop e := by rw [List.drop_drop]; congr 1; omega
  have e3 : ((bs s).drop a).take (j - a) = ((bs s).drop a).take ((e - a) + (j - e)) := by congr 1; omega
  rw [e3, List.take_add, e2, e1]
  have e4 : j - e = (j - (e + 1)) + 1 := by omega
  rw [e4, List.take_succ_cons]
/-- Behind the digits at i, where there is one. -/
def DigPos (w : World) (s : ByteArray) (i : Nat) (e : Ending) (w' : World) : Prop := ∃ j : Nat, e = .returned (.int .i64 j) ∧ i < j ∧ j ≤ s.size ∧ Digs (s.extract i j) s.size ∧ w = w'
theorem zzDigits_pos (s : ByteArray) (i : Nat) (w : World) (hi : i < s.size) (hd : isDig (s[i]'hi) = true) (hs : s.size ≤ 4294967296) : Calls Tryz.prog 96 #[.string s, .int .i64 i] w (DigPos w s i) := by
  refine (zzDigits_any s i w (by omega) hs).mono ?_
  rintro e w' ⟨rfl, rfl⟩
  obtain ⟨h1, h2⟩ := digs_at s i (by omega)
  have h3 := nd_drop (bs s) i (by rw [bs_len]; exact hi)
  rw [← bs_get s i hi, hd] at h3
  exact ⟨_, rfl, by simp at h3; omega, h2, h1, rfl⟩
theorem digs_ne {s : ByteArray} {i j : Nat} (h : i < j) (hj : j ≤ s.size) : bs (s.extract i j) ≠ [] := by
  intro e
  have h1 := bs_len (s.extract i j)
  rw [e] at h1
  simp at h1
  omega
/-- The zero match. -/
abbrev mt0 : Array Value := #[.bool false, .string (mk []), .string (mk []), .string (mk []), .string (mk []), .string (mk []), .string (mk []), .string (mk []), .string (mk []), .string (mk []), .string (mk [])]
/-- A match's cells. -/
abbrev mtA (ok : Bool) (t1 t2 t3 t4 t5 t6 t7 t8 t9 t10 : ByteArray) : Array Value := #[.bool ok, .string t1, .string t2, .string t3, .string t4, .string t5, .string t6, .string t7, .string t8, .string t9, .string t10]
/-- What the walk keeps of the world: the match's block, the result's block. -/
structure Mm (w0 W : World) (vs : Array Value) : Prop where
  at' : W.heap[w0.heap.size + 1]? = some (.cells vs 127)
  zz : W.heap[w0.heap.size]? = some (.cells mt0 127)
  below : Below w0.heap.size w0 W
theorem mm_size {w0 W : World} {vs : Array Value} (h : Mm w0 W vs) : w0.heap.size + 1 < W.heap.size := (Array.getElem?_eq_some_iff.1 h.at').1
theorem mm_start (w : World) : Mm w ((w.alloc (.cells mt0 127)).alloc (.cells mt0 127)) mt0 :=
  ⟨by have := heap_alloc_new (w.alloc (.cells mt0 127)) (.cells mt0 127); rw [World.size_alloc] at this; exact this, by rw [heap_alloc_old _ _ (by simp)]; exact heap_alloc_new w _, ((Below.refl _ _).alloc (Nat.le_refl _) _).alloc (by simp) _⟩
theorem mm_below {w0 W W1 : World} {vs : Array Value} (h : Mm w0 W vs) (hb : Below W.heap.size W W1) : Mm w0 W1 vs :=
  ⟨by rw [hb.block _ (mm_size h)]; exact h.at', by rw [hb.block _ (by have := mm_size h; omega)]; exact h.zz, h.below.trans (hb.mono (by have := mm_size h; omega))⟩
theorem mm_set {w0 W : World} {vs : Array Value} (h : Mm w0 W vs) (i : Nat) (v : Value) : Mm w0 (W.setCell ⟨w0.heap.size + 1, i, none⟩ v) (vs.setIfInBounds i v) :=
  ⟨heap_setCell_at _ _ _ _ _ _ _ h.at', by rw [Below.heap_setCell _ _ _ _ (by simp)]; exact h.zz, Below.setCell h.below (by simp) _⟩
theorem mm_cell {w0 W : World} {vs : Array Value} (h : Mm w0 W vs) (i : Nat) (hi : i < vs.size) : W.cell? ⟨w0.heap.size + 1, i, none⟩ = some vs[i] ∧ W.frozen? ⟨w0.heap.size + 1, i, none⟩ = false := by
  refine ⟨?_, ?_⟩ <;> simp [World.cell?, World.frozen?, h.at', hi]
/-- The result of zzPyPIMatch: what its groups are where it matches. -/
structure MtOK (n : Nat) (t1 t2 t3 t4 t5 t6 t7 t8 t9 t10 : ByteArray) : Prop where
  ep : Digs t1 n
  rel : RelOK (bs t2) ∧ t2.size ≤ n
  prel : AscN t3 100
  pren : Digs t4 n
  p1 : Digs t5 n
  p2 : Digs t6 n
  pl : AscN t7 100
  dl : AscN t8 100
  dn : Digs t9 n
  loc : AscN t10 n
theorem inf127 : (Tryz.prog.info? 127).map (·.size) = some 11 := by kernel_rfl
theorem und127 : ∃ d, Tryz.prog.underlying 127 = some d ∧ d.isRow = true := row_of (by kernel_rfl)
theorem mt_ones (ok : Bool) (t1 t2 t3 t4 t5 t6 t7 t8 t9 t10 : ByteArray) : (mtA ok t1 t2 t3 t4 t5 t6 t7 t8 t9 t10).all (·.oneCell') = true := by simp [Value.oneCell']
theorem mm_range {w0 W : World} {vs : Array Value} (h : Mm w0 W vs) : W.rangeAt (w0.heap.size + 1) 0 vs.toList := by
  intro j v hv
  simp [World.cell?, h.at', ← Array.getElem?_toList, hv]
theorem mm_there {w0 W : World} {vs : Array Value} (h : Mm w0 W vs) : W.there w0.heap.size 0 11 := there_of h.zz (Nat.le_refl 11)
def MtPost (w : World) (n : Nat) (e : Ending) (w' : World) : Prop :=
  ∃ ok t1 t2 t3 t4 t5 t6 t7 t8 t9 t10, e = .returned (.agg (mtA ok t1 t2 t3 t4 t5 t6 t7 t8 t9 t10)) ∧ (ok = true → MtOK n t1 t2 t3 t4 t5 t6 t7 t8 t9 t10) ∧ Below w.heap.size w w'

abbrev wsPre : List ByteArray := [⟨#[97, 108, 112, 104, 97]⟩, ⟨#[98, 101, 116, 97]⟩, ⟨#[112, 114, 101, 118, 105, 101, 119]⟩, ⟨#[112, 114, 101]⟩, ⟨#[114, 99]⟩, ⟨#[97]⟩, ⟨#[98]⟩, ⟨#[99]⟩]
abbrev wsPost : List ByteArray := [⟨#[112, 111, 115, 116]⟩, ⟨#[114, 101, 118]⟩, ⟨#[114]⟩]
abbrev wsDev : List ByteArray := [⟨#[100, 101, 118]⟩]
theorem wsPre_at (W : World) (g : Nat) (hg : W.heap.size = g) : WordsAt (W.alloc (.cells #[.string ⟨#[97, 108, 112, 104, 97]⟩, .string ⟨#[98, 101, 116, 97]⟩, .string ⟨#[112, 114, 101, 118, 105, 101, 119]⟩, .string ⟨#[112, 114, 101]⟩, .string ⟨#[114, 99]⟩, .string ⟨#[97]⟩, .string ⟨#[98]⟩, .string ⟨#[99]⟩] 9)) g wsPre := by
  subst hg
  intro j hj
  have h := heap_alloc_new W (.cells #[.string ⟨#[97, 108, 112, 104, 97]⟩, .string ⟨#[98, 101, 116, 97]⟩, .string ⟨#[112, 114, 101, 118, 105, 101, 119]⟩, .string ⟨#[112, 114, 101]⟩, .string ⟨#[114, 99]⟩, .string ⟨#[97]⟩, .string ⟨#[98]⟩, .string ⟨#[99]⟩] 9)
  have h2 : j < 8 := hj
  simp only [World.cell?, h]
  rcases j with _ | _ | _ | _ | _ | _ | _ | _ | j
  all_goals first | rfl | (exfalso; omega)
theorem wsPre_ok : (∀ x ∈ wsPre, x.size ≤ 100) ∧ ∀ x ∈ wsPre, AscN x 100 := by
  have h : ∀ x ∈ wsPre, x.size ≤ 100 ∧ ∀ c ∈ x.data.toList, c.toNat < 128 := by decide
  exact ⟨fun x hx => (h x hx).1, fun x hx => ⟨(h x hx).2, (h x hx).1⟩⟩
theorem wsPost_at (W : World) (g : Nat) (hg : W.heap.size = g) : WordsAt (W.alloc (.cells #[.string ⟨#[112, 111, 115, 116]⟩, .string ⟨#[114, 101, 118]⟩, .string ⟨#[114]⟩] 9)) g wsPost := by
  subst hg
  intro j hj
  have h := heap_alloc_new W (.cells #[.string ⟨#[112, 111, 115, 116]⟩, .string ⟨#[114, 101, 118]⟩, .string ⟨#[114]⟩] 9)
  have h2 : j < 3 := hj
  simp only [World.cell?, h]
  rcases j with _ | _ | _ | j
  all_goals first | rfl | (exfalso; omega)
theorem wsPost_ok : (∀ x ∈ wsPost, x.size ≤ 100) ∧ ∀ x ∈ wsPost, AscN x 100 := by
  have h : ∀ x ∈ wsPost, x.size ≤ 100 ∧ ∀ c ∈ x.data.toList, c.toNat < 128 := by decide
  exact ⟨fun x hx => (h x hx).1, fun x hx => ⟨(h x hx).2, (h x hx).1⟩⟩
theorem wsDev_at (W : World) (g : Nat) (hg : W.heap.size = g) : WordsAt (W.alloc (.cells #[.string ⟨#[100, 101, 118]⟩] 9)) g wsDev := by
  subst hg
  intro j hj
  have h := heap_alloc_new W (.cells #[.string ⟨#[100, 101, 118]⟩] 9)
  have h2 : j < 1 := hj
  simp only [World.cell?, h]
  rcases j with _ | j
  all_goals first | rfl | (exfalso; omega)
theorem wsDev_ok : (∀ x ∈ wsDev, x.size ≤ 100) ∧ ∀ x ∈ wsDev, AscN x 100 := by
  have h : ∀ x ∈ wsDev, x.size ≤ 100 ∧ ∀ c ∈ x.data.toList, c.toNat < 128 := by decide
  exact ⟨fun x hx => (h x hx).1, fun x hx => ⟨(h x hx).2, (h x hx).1⟩⟩
theorem word_asc {l : List ByteArray} (h : ∀ x ∈ l, AscN x 100) {wd : ByteArray} (hw : wd = mk [] ∨ wd ∈ l) : AscN wd 100 := by
  rcases hw with rfl | hw
  · exact ⟨fun c hc => by simp [bs_mk] at hc, by rw [mk_size]; simp⟩
  · exact h wd hw
theorem mt_ret {w0 W : World} {vs : Array Value} {n : Nat} (h : Mm w0 W vs) (ok : Bool) (t1 t2 t3 t4 t5 t6 t7 t8 t9 t10 : ByteArray) (hok : ok = true → MtOK n t1 t2 t3 t4 t5 t6 t7 t8 t9 t10) {tm : Array Value} (hk : tm.getD 2 undef = .pointer (some ⟨w0.heap.size, 0, none⟩)) {a : Act} (ha : a.tmps = tm) (hd : a.defers = []) :
    bodyPost Tryz.prog Tryz.f56 (MtPost w0 n) .ret a (W.setCells w0.heap.size 0 (mtA ok t1 t2 t3 t4 t5 t6 t7 t8 t9 t10).toList) := by
  obtain ⟨d, hd1, hd2⟩ := und127
  refine bodyPost_ret (res_cell1 (cs := (mtA ok t1 t2 t3 t4 t5 t6 t7 t8 t9 t10).toList) Tryz.results56 (by rw [ha]; exact hk) (World.rangeAt_setCells_same W w0.heap.size 0 _ (mm_there h)) hd1 hd2 inf127) hd ?_
  exact ⟨ok, t1, t2, t3, t4, t5, t6, t7, t8, t9, t10, rfl, hok, below_setCells (Nat.le_refl _) _ _ h.below⟩
theorem mm_drewN {w0 W : World} {vs : Array Value} (h : Mm w0 W vs) (n : Nat) : Mm w0 (W.drewN n) vs := mm_below h (bl_drewN (Below.refl _ _) n)
set_option maxRecDepth 1000000 in
set_option maxHeartbeats 16000000 in
theorem match_any (s : ByteArray) (w : World) (hs : s.size ≤ 1048576) (ha : Asc (bs s)) : Calls Tryz.prog 56 #[.string s] w (MtPost w s.size) := by
  have HA := Lib.hid ha
  clear ha
  have HM0 := Lib.hid (mm_start w)
  go_enter Tryz.func56, Tryz.ntmps56
  go_upto_region 3 with (go_at_call 95; refine (zzBlanks_any s 0 _ (Nat.zero_le _) (by omega)).mono ?_; rintro e w' ⟨i0, rfl, _, hi0, rfl⟩)
  go_cut [18] (fun t wr => ∃ b : Bool, t = .bool b ∧ Hid (b = true → i0 < s.size) ∧ Hid (Mm w wr mt0))
  case first =>
    as_aux_lemma =>
      by_cases h1 : i0 < s.size
      · go_wp2_with fail
        go_meet
        exact ⟨_, rfl, fun _ => h1, HM0.out⟩
      · go_wp2_with fail
        go_meet
        exact ⟨_, rfl, fun h => by first | (cases h) | exact absurd h h1, HM0.out⟩
  case rest =>
    obtain ⟨b, rfl, hb, HM1⟩ := hcut
    go_upto_if 18 with fail
    go_cut [4] (fun i wr => ∃ k : Nat, i = .int .i64 k ∧ k ≤ s.size ∧ Hid (Mm w wr mt0))
    case first =>
      as_aux_lemma =>
        cases b
        · go_wp2_with fail
          go_meet
          exact ⟨i0, rfl, hi0, HM1⟩
        · have hb2 : i0 < s.size := hb.out rfl
          go_wp2_with fail
          go_meet
          exact ⟨i0 + 1, by go_num, by omega, HM1⟩
    case rest =>
      obtain ⟨i, rfl, hi, HM2⟩ := hcut
      clear hb HM1
      go_upto_region 6 with (go_at_call 96; refine (zzDigits_to s i _ hi (by omega)).mono ?_; rintro e w' ⟨j, rfl, hij, hj, hdg, rfl⟩; have HDG := Lib.hid hdg; clear hdg)
      go_cut [38] (fun t wr => ∃ b : Bool, t = .bool b ∧ Hid (b = true → i < j ∧ j < s.size) ∧ Hid (Mm w wr mt0))
      case first =>
        as_aux_lemma =>
          by_cases h1 : i < j
          · by_cases h2 : j < s.size
            · go_wp2_with fail
              go_meet
              exact ⟨_, rfl, fun _ => ⟨h1, h2⟩, HM2⟩
            · go_wp2_with fail
              go_meet
              exact ⟨_, rfl, fun h => by first | (cases h) | exact absurd h h2, HM2⟩
          · go_wp2_with fail
            go_meet
            exact ⟨_, rfl, fun h => by first | (cases h) | exact absurd h h1, HM2⟩
      case rest =>
        obtain ⟨b, rfl, hb, HM3⟩ := hcut
        clear HM2
        go_upto_if 38 with fail
        go_cut [4, 5] (fun a4 a5 wr => ∃ (k e : Nat) (ep : ByteArray), a4 = .int .i64 k ∧ a5 = .int .i64 e ∧ k ≤ e ∧ e ≤ s.size ∧ Hid (Digs ep s.size) ∧ Hid (Digs (s.extract k e) s.size) ∧ Hid (Mm w wr (mtA false ep (mk []) (mk []) (mk []) (mk []) (mk []) (mk []) (mk []) (mk []) (mk []))))
        case first =>
          as_aux_lemma =>
            cases b
            · go_wp2_with fail
              go_meet
              exact ⟨i, j, mk [], rfl, rfl, hij, hj, digs_nil _, HDG, HM3⟩
            · obtain ⟨hb1, hb2⟩ := hb.out rfl
              obtain ⟨q1, q2⟩ := mm_cell HM3.out 1 (by decide)
              have HM4 := Lib.hid (mm_set HM3.out 1 (.string (s.extract i j)))
              go_wp2_with (go_at_call 96; refine (zzDigits_to s (j + 1) _ (by omega) (by omega)).mono ?_; rintro e w' ⟨j2, rfl, hij2, hj2, hdg2, rfl⟩; have HDG2 := Lib.hid hdg2; clear hdg2)
              go_meet
              exact ⟨j + 1, j2, _, by go_num, rfl, hij2, hj2, HDG, HDG2, HM4⟩
        case rest =>
          obtain ⟨i1, e1, ep, rfl, rfl, hie, he, HEP, HD1, HM4⟩ := hcut
          clear hb HM3
          by_cases heq : e1 = i1
          · subst heq
            go_wp2_with (refine wpList_store_mid rfl 127 _ _ rfl w.heap.size 0 _ rfl rfl (mm_there HM4.out) inf127 (mt_ones _ _ _ _ _ _ _ _ _ _ _) ?_)
            exact mt_ret HM4.out false _ _ _ _ _ _ _ _ _ _ (fun h => by cases h) rfl rfl rfl
          · have hlt : i1 < e1 := by omega
            have hne : ((e1 : Int) == i1) = false := by rw [beq_eq_false_iff_ne]; omega
            clear heq
            have HR1 : Hid (RelOK (bs (s.extract i1 e1))) := relOK_digs (digs_ne hlt he) HD1.out.dig
            clear HD1
            go_upto_block 0 with fail
            go_cut [5] (fun a5 wr => ∃ e : Nat, a5 = .int .i64 e ∧ i1 < e ∧ e ≤ s.size ∧ Hid (RelOK (bs (s.extract i1 e))) ∧ Hid (Mm w wr (mtA false ep (mk []) (mk []) (mk []) (mk []) (mk []) (mk []) (mk []) (mk []) (mk []))))
            case first =>
              as_aux_lemma =>
                go_wp2_with fail
                go_loopw [5] (fun a5 wr => ∃ e : Nat, a5 = .int .i64 e ∧ i1 < e ∧ e ≤ s.size ∧ Hid (RelOK (bs (s.extract i1 e))) ∧ Hid (Mm w wr (mtA false ep (mk []) (mk []) (mk []) (mk []) (mk []) (mk []) (mk []) (mk []) (mk [])))) (fun a5 _ => s.size - (intOf a5).toNat)
                case atStart => exact ⟨e1, rfl, hlt, he, HR1, HM4⟩
                case round =>
                  obtain ⟨e, rfl, hie2, he2, HR, HM⟩ := hrel
                  by_cases h1 : e + 1 < s.size
                  · by_cases h2 : (((s[e]'(by omega)).toNat : Int) == 46) = true
                    · cases hd : isDig (s[e + 1]'h1) <;> have HD := Lib.hid hd <;> clear hd
                      · go_wp2_with (go_at_call 97; refine (zzDigit_any _ _).mono ?_; rintro e w' ⟨rfl, rfl⟩; rw [HD.out])
                        go_meet
                        exact ⟨e, rfl, hie2, he2, HR, HM⟩
                      · have H46 : Hid ((s[e]'(by omega)) = 46) := by
                          have h3 : ((s[e]'(by omega)).toNat : Int) = 46 := by simpa using h2
                          exact UInt8.toNat_inj.1 (by simpa using (by omega : (s[e]'(by omega)).toNat = 46))
                        go_wp2_with (first
                          | (go_at_call 97; refine (zzDigit_any _ _).mono ?_; rintro e w' ⟨rfl, rfl⟩; rw [HD.out])
                          | (go_at_call 96; refine (zzDigits_pos s (e + 1) _ h1 HD.out (by omega)).mono ?_; rintro e w' ⟨j2, rfl, hij2, hj2, hdg2, rfl⟩; have HDG2 := Lib.hid hdg2; clear hdg2))
                        go_roundw
                        case rel => exact ⟨j2, rfl, by omega, hj2, by rw [ext_split s i1 e j2 (by omega) (by omega) hj2 (by omega) H46.out]; exact relOK_app HR.out (relOK_digs (digs_ne hij2 hj2) HDG2.out.dig), HM⟩
                        case measure => simp only [intOf]; omega
                    · have h2' : (((s[e]'(by omega)).toNat : Int) == 46) = false := by simpa using h2
                      clear h2
                      go_wp2_with fail
                      go_meet
                      exact ⟨e, rfl, hie2, he2, HR, HM⟩
                  · go_wp2_with fail
                    go_meet
                    exact ⟨e, rfl, hie2, he2, HR, HM⟩
            case rest =>
              obtain ⟨e2, rfl, hie2, he2, HR, HM5⟩ := hcut
              clear HR1 HM4 he hlt hne hie
              obtain ⟨q1, q2⟩ := mm_cell HM5.out 2 (show 2 < 11 by decide)
              have HM6 := Lib.hid (mm_set HM5.out 2 (.string (s.extract i1 e2)))
              go_upto_region 15 with fail
              have HB1 := Lib.hid (wsPre_at (wc.setCell ⟨w.heap.size + 1, 2, none⟩ (.string (s.extract i1 e2))) wc.heap.size (by simp))
              have HM7 := Lib.hid (mm_below HM6.out ((Below.refl _ _).alloc (Nat.le_refl _) (.cells #[.string ⟨#[97, 108, 112, 104, 97]⟩, .string ⟨#[98, 101, 116, 97]⟩, .string ⟨#[112, 114, 101, 118, 105, 101, 119]⟩, .string ⟨#[112, 114, 101]⟩, .string ⟨#[114, 99]⟩, .string ⟨#[97]⟩, .string ⟨#[98]⟩, .string ⟨#[99]⟩] 9)))
              clear q1 q2
              go_wp2_with fail
              refine (zzLettered_any s e2 _ 8 wsPre _ he2 hs HB1.out (by decide) wsPre_ok.1).mono ?_
              rintro e w5 ⟨wd1, dg1, k1, rfl, hwd, hdg, hk1, hk2, m1, rfl⟩
              have HM8 := Lib.hid (mm_drewN HM7.out m1)
              obtain ⟨q3, q3f⟩ := mm_cell HM8.out 3 (show 3 < 11 by decide)
              obtain ⟨q4, q4f⟩ := mm_cell HM8.out 4 (show 4 < 11 by decide)
              have HM9 := Lib.hid (mm_set (mm_set HM8.out 3 (.string wd1)) 4 (.string dg1))
              have HW1 := Lib.hid (word_asc wsPre_ok.2 hwd)
              have HG1 := Lib.hid hdg
              have HREL : Hid (RelOK (bs (s.extract i1 e2)) ∧ (s.extract i1 e2).size ≤ s.size) := ⟨HR.out, by simp; omega⟩
              clear hwd hdg HR HB1 HM5 HM6 HM7 HM8
              go_upto_region 16 with fail
              clear q3 q3f q4 q4f
              generalize (s.extract i1 e2) = rel at HREL HM9
              go_cut [107] (fun t wr => ∃ b : Bool, t = .bool b ∧ Hid (b = true → k1 + 1 < s.size) ∧ Hid (Mm w wr (mtA false ep rel wd1 dg1 (mk []) (mk []) (mk []) (mk []) (mk []) (mk []))))
              case first =>
                as_aux_lemma =>
                  by_cases h1 : k1 + 1 < s.size
                  · by_cases h2 : (((s[k1]'(by omega)).toNat : Int) == 45) = true
                    · go_wp2_with (go_at_call 97; refine (zzDigit_any _ _).mono ?_; rintro e w' ⟨rfl, rfl⟩)
                      go_meet
                      exact ⟨_, rfl, fun _ => h1, HM9⟩
                    · have h2' : (((s[k1]'(by omega)).toNat : Int) == 45) = false := by simpa using h2
                      clear h2
                      go_wp2_with fail
                      go_meet
                      exact ⟨_, rfl, (fun h => by cases h), HM9⟩
                  · go_wp2_with fail
                    go_meet
                    exact ⟨_, rfl, fun h => by first | (cases h) | exact absurd h h1, HM9⟩
              case rest =>
                obtain ⟨b, rfl, hb, HM10⟩ := hcut
                clear HM9
                go_upto_if 107 with fail
                go_cut [4] (fun a4 wr => ∃ (k : Nat) (p1 p2 pl : ByteArray), a4 = .int .i64 k ∧ k ≤ s.size ∧ Hid (Digs p1 s.size) ∧ Hid (Digs p2 s.size) ∧ Hid (AscN pl 100) ∧ Hid (Mm w wr (mtA false ep rel wd1 dg1 p1 p2 pl (mk []) (mk []) (mk []))))
                case first =>
                  as_aux_lemma =>
                    cases b
                    · have HB1 := Lib.hid (wsPost_at wc wc.heap.size rfl)
                      have HM7 := Lib.hid (mm_below HM10.out ((Below.refl _ _).alloc (Nat.le_refl _) (.cells #[.string ⟨#[112, 111, 115, 116]⟩, .string ⟨#[114, 101, 118]⟩, .string ⟨#[114]⟩] 9)))
                      go_wp2_with fail
                      refine (zzLettered_any s k1 _ 3 wsPost _ hk2 hs HB1.out (by decide) wsPost_ok.1).mono ?_
                      rintro e w5 ⟨wd2, dg2, k2, rfl, hwd, hdg, hk3, hk4, m2, rfl⟩
                      have HM8 := Lib.hid (mm_drewN HM7.out m2)
                      obtain ⟨q3, q3f⟩ := mm_cell HM8.out 7 (show 7 < 11 by decide)
                      obtain ⟨q4, q4f⟩ := mm_cell HM8.out 6 (show 6 < 11 by decide)
                      have HM9 := Lib.hid (mm_set (mm_set HM8.out 7 (.string wd2)) 6 (.string dg2))
                      go_wp2_with fail
                      go_meet
                      exact ⟨k2, _, dg2, wd2, rfl, hk4, digs_nil _, hdg, word_asc wsPost_ok.2 hwd, HM9⟩
                    · have hb2 : k1 + 1 < s.size := hb.out rfl
                      obtain ⟨q3, q3f⟩ := mm_cell HM10.out 5 (show 5 < 11 by decide)
                      go_wp2_with (go_at_call 96; refine (zzDigits_to s (k1 + 1) _ (by omega) (by omega)).mono ?_; rintro e w' ⟨j2, rfl, hij2, hj2, hdg2, rfl⟩; have HDG2 := Lib.hid hdg2; clear hdg2)
                      go_meet
                      exact ⟨j2, _, _, _, rfl, hj2, HDG2, digs_nil _, ⟨fun c hc => by simp [bs_mk] at hc, by rw [mk_size]; simp⟩, mm_set HM10.out 5 _⟩
                case rest =>
                  obtain ⟨k3, p1, p2, pl, rfl, hk3, HP1, HP2, HPL, HM11⟩ := hcut
                  clear hb HM10
                  have HB1 := Lib.hid (wsDev_at wc wc.heap.size rfl)
                  have HM7 := Lib.hid (mm_below HM11.out ((Below.refl _ _).alloc (Nat.le_refl _) (.cells #[.string ⟨#[100, 101, 118]⟩] 9)))
                  go_wp2_with fail
                  refine (zzLettered_any s k3 _ 1 wsDev _ hk3 hs HB1.out (by decide) wsDev_ok.1).mono ?_
                  rintro e w5 ⟨wd3, dg3, k4, rfl, hwd, hdg, hk4, hk5, m3, rfl⟩
                  have HM8 := Lib.hid (mm_drewN HM7.out m3)
                  obtain ⟨q3, q3f⟩ := mm_cell HM8.out 8 (show 8 < 11 by decide)
                  obtain ⟨q4, q4f⟩ := mm_cell HM8.out 9 (show 9 < 11 by decide)
                  have HM9 := Lib.hid (mm_set (mm_set HM8.out 8 (.string wd3)) 9 (.string dg3))
                  have HW3 := Lib.hid (word_asc wsDev_ok.2 hwd)
                  have HG3 := Lib.hid hdg
                  clear hwd hdg HB1 HM11 HM7 HM8
                  go_upto_region 22 with fail
                  clear q3 q3f q4 q4f
                  go_cut [148] (fun t wr => ∃ b : Bool, t = .bool b ∧ Hid (b = true → k4 < s.size) ∧ Hid (Mm w wr (mtA false ep rel wd1 dg1 p1 p2 pl wd3 dg3 (mk []))))
                  case first =>
                    as_aux_lemma =>
                      by_cases h1 : k4 < s.size
                      · go_wp2_with fail
                        go_meet
                        exact ⟨_, rfl, fun _ => h1, HM9⟩
                      · go_wp2_with fail
                        go_meet
                        exact ⟨_, rfl, fun h => by first | (cases h) | exact absurd h h1, HM9⟩
                  case rest =>
                    obtain ⟨b, rfl, hb, HM12⟩ := hcut
                    clear HM9
                    go_upto_if 148 with fail
                    go_cut [4] (fun a4 wr => ∃ (k : Nat) (loc : ByteArray), a4 = .int .i64 k ∧ k ≤ s.size ∧ Hid (AscN loc s.size) ∧ Hid (Mm w wr (mtA false ep rel wd1 dg1 p1 p2 pl wd3 dg3 loc)))
                    case first =>
                      as_aux_lemma =>
                        cases b
                        · go_wp2_with fail
                          go_meet
                          exact ⟨k4, mk [], rfl, hk5, ⟨fun c hc => by simp [bs_mk] at hc, by rw [mk_size]; simp⟩, HM12⟩
                        · have hb2 : k4 < s.size := hb.out rfl
                          go_upto_region 25 with (go_at_call 99; refine (zzAlnum_any s (k4 + 1) _ (by omega) (by omega)).mono ?_; rintro e w' ⟨j2, rfl, hij2, hj2, rfl⟩)
                          by_cases heq : j2 = k4 + 1
                          · have heq' : ((j2 : Int) == (k4 : Int) + 1) = true := by rw [beq_iff_eq]; omega
                            clear heq
                            go_wp2_with (refine wpList_store_mid rfl 127 _ _ rfl w.heap.size 0 _ rfl rfl (mm_there HM12.out) inf127 (mt_ones _ _ _ _ _ _ _ _ _ _ _) ?_)
                            exact mt_ret HM12.out false _ _ _ _ _ _ _ _ _ _ (fun h => by cases h) rfl rfl rfl
                          · have heq' : ((j2 : Int) == (k4 : Int) + 1) = false := by rw [beq_eq_false_iff_ne]; omega
                            clear heq
                            go_wp2_with fail
                            go_loopw [5] (fun a5 wr => ∃ e : Nat, a5 = .int .i64 e ∧ k4 + 1 ≤ e ∧ e ≤ s.size ∧ Hid (Mm w wr (mtA false ep rel wd1 dg1 p1 p2 pl wd3 dg3 (mk [])))) (fun a5 _ => s.size - (intOf a5).toNat)
                            case atStart => exact ⟨j2, rfl, hij2, hj2, HM12⟩
                            case round =>
                              obtain ⟨e, rfl, hke, he3, HM⟩ := hrel
                              obtain ⟨q3, q3f⟩ := mm_cell HM.out 10 (show 10 < 11 by decide)
                              go_wp2_with (first
                                | (go_at_call 100; refine (zzMark_any s e _ he3 (by omega)).mono ?_; rintro e5 w' ⟨j3, rfl, hj3, hj4, rfl⟩; by_cases hmk : e < j3)
                                | (go_at_call 99; refine (zzAlnum_any s (e + 1) _ (by omega) (by omega)).mono ?_; rintro e5 w' ⟨j5, rfl, hj5, hj6, rfl⟩))
                              · go_roundw
                                case rel => exact ⟨j5, rfl, by omega, hj6, HM⟩
                                case measure => simp only [intOf]; omega
                              · go_meet
                                exact ⟨e, _, rfl, he3, ascN_ext HA.out _ _ he3, mm_set HM.out 10 _⟩
                              · go_meet
                                exact ⟨e, _, rfl, he3, ascN_ext HA.out _ _ he3, mm_set HM.out 10 _⟩
                    case rest =>
                      obtain ⟨k6, loc, rfl, hk6, HLOC, HM13⟩ := hcut
                      clear hb HM12
                      obtain ⟨q3, q3f⟩ := mm_cell HM13.out 0 (show 0 < 11 by decide)
                      have HM14 := Lib.hid (mm_set HM13.out 0 (.bool true))
                      have HRG : Hid ((wc.setCell ⟨w.heap.size + 1, 0, none⟩ (.bool true)).rangeAt (w.heap.size + 1) 0 [.bool true, .string ep, .string rel, .string wd1, .string dg1, .string p1, .string p2, .string pl, .string wd3, .string dg3, .string loc]) := mm_range HM14.out
                      obtain ⟨d, hd1, hd2⟩ := und127
                      have HDD1 := Lib.hid hd1
                      have HDD2 := Lib.hid hd2
                      clear hd1 hd2
                      go_wp2_with (first
                        | (go_at_call 95; refine (zzBlanks_any s k6 _ hk6 (by omega)).mono ?_; rintro e w' ⟨j7, rfl, hj7, hj8, rfl⟩; by_cases h7 : j7 < s.size)
                        | (refine wpList_load_mid rfl 127 _ rfl (w.heap.size + 1) 0 rfl [.bool true, .string ep, .string rel, .string wd1, .string dg1, .string p1, .string p2, .string pl, .string wd3, .string dg3, .string loc] d HRG.out HDD1.out HDD2.out inf127 ?_)
                        | (refine wpList_store_mid rfl 127 _ _ rfl w.heap.size 0 _ rfl rfl (mm_there HM14.out) inf127 (mt_ones _ _ _ _ _ _ _ _ _ _ _) ?_)
                        | (refine wpList_store_mid rfl 127 _ _ rfl w.heap.size 0 _ rfl rfl (mm_there HM13.out) inf127 (mt_ones _ _ _ _ _ _ _ _ _ _ _) ?_))
                      · exact mt_ret HM13.out false _ _ _ _ _ _ _ _ _ _ (fun h => by cases h) rfl rfl rfl
                      · exact mt_ret HM14.out true _ _ _ _ _ _ _ _ _ _ (fun _ => ⟨HEP.out, HREL.out, HW1.out, HG1.out, HP1.out, HP2.out, HPL.out, HW3.out, HG3.out, HLOC.out⟩) rfl rfl rfl
end Go.Proofs.YtoofphhfealcaaaGreatDoor
