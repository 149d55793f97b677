/-
  PROVED: FnEcosystemCardSaid: whatever the name and the text, the law FnEcosystem answers true and leaves its arguments as they were.
  CONDITIONS: the listed package-level variables hold what the program's own text lays in them; that is tied by the given text of the ties. Nothing else is assumed.
  WALKS: the law FnEcosystem; THE ROW FnEcosystem, PROVED.
-/
import Derived.Test.YtoofphhfealcaaaGreatDoorW10
import Derived.Test.YtoofphhfealcaaaGreatDoorR32
import Derived.Test.YtoofphhfealcaaaGreatDoorM8
import Derived.Test.YtoofphhfealcaaaGreatDoorX1
import Derived.Test.YtoofphhfealcaaaGreatDoorX2
import Derived.Test.YtoofphhfealcaaaGreatDoorTie
import Derived.Test.YtoofphhfealcaaaGreatDoorCards
namespace Go.Proofs.YtoofphhfealcaaaGreatDoor
open Go.RowKit
theorem cut_repl : ∀ l : List UInt8, cutBy (· == (46 : UInt8)) (repl 45 46 l) = cutBy crMark l
  | [] => rfl
  | x :: r => by
    have ih := cut_repl r
    have e : repl 45 46 (x :: r) = (if x = 45 then 46 else x) :: repl 45 46 r := rfl
    rw [e]
    unfold cutBy
    rw [ih]
    by_cases h : x = 45
    · subst h
      simp [crMark]
    · by_cases h2 : x = 46
      · subst h2
        simp [crMark]
      · simp [crMark, h, h2]
theorem cran_eq (s : ByteArray) : (bs s = [] ∨ allNum (pieces 46 (mk (repl 45 46 (bs s)))) = true) ↔ crOK s = true := by
  have e : pieces 46 (mk (repl 45 46 (bs s))) = crParts s := by
    unfold pieces crParts
    rw [bs_mk, cut_repl]
  rw [e]
  simp [crOK, allNum]
theorem deb_no {s : ByteArray} (h : 58 ∉ bs (trimB s)) : debOK s = true := by
  unfold debOK
  have : (bs (trimB s)).contains 58 = false := by
    rw [Bool.eq_false_iff]
    intro h2
    rw [List.contains_iff_mem] at h2
    exact h h2
  rw [this]
  rfl
theorem deb_at {s : ByteArray} {i : Nat} (h : First 58 (bs (trimB s)) i) : debOK s = isNum ((bs (trimB s)).take i) := by
  unfold debOK
  have h1 : (bs (trimB s)).contains 58 = true := by
    rw [List.contains_iff_mem, ← h.eq]
    exact List.getElem_mem _
  rw [h1, bare_first h]
  simp
def ecoEr (ai : Addr) (s : ByteArray) (k : Nat) : Value := if okB k s then .nilIface else .iface 364 (.pointer (some ai))
theorem hack_eq (s : ByteArray) : (∀ c ∈ Lib.trimPrefix (bs s) [118], dotDig c = true) ↔ hackOK s = true := by
  unfold hackOK
  rw [List.all_eq_true]
theorem pok_all (s : ByteArray) (a ae ai au : Addr) (k : Nat) (hs : s.size ≤ 1200) (hA : k = 4 ∨ Asc (bs s)) : POK s a ae ai au (ecoEr ai s) k where
  p1 := fun _ W _ => agg_rv (parseRedHat_any s W (by omega))
  p2 := fun _ W hG => (parseAlpine_any s W a ae ai au hG (by omega)).mono fun _ _ ⟨cs, he, hB⟩ => ⟨cs, he, hB⟩
  p3 := fun h W hG => agg_rv (parseSemver_any s W a ae ai au (fcb_all 3 s (by omega) hs strB_1200) hG.toGl (by omega) (hA.resolve_left (by omega)))
  p4 := fun _ W hG => (parseCRAN_any s W a ae ai au hG.toGl (by omega)).mono fun _ _ ⟨cs, er, he, h1, hB⟩ => by
    refine ⟨cs, ?_, hB⟩
    rw [he, h1]
    have e : ecoEr ai s 4 = if crOK s then .nilIface else .iface 364 (.pointer (some ai)) := rfl
    rw [e]
    by_cases h : crOK s = true
    · rw [if_pos h, if_pos ((cran_eq s).2 h)]
    · rw [if_neg h, if_neg (fun h2 => h ((cran_eq s).1 h2))]
  p5 := fun h W hG => (parseDebian_any s W a ae ai au hG (by omega) (hA.resolve_left (by omega))).mono fun _ _ ⟨cs, er, he, h1, hB⟩ => by
    refine ⟨cs, ?_, hB⟩
    have e : ecoEr ai s 5 = if debOK s then .nilIface else .iface 364 (.pointer (some ai)) := rfl
    rw [he, e]
    rcases h1 with ⟨hn, h⟩ | ⟨i, hF, ⟨hi, h⟩ | ⟨hi, h⟩⟩
    · rw [h, if_pos (deb_no hn)]
    · rw [h, if_pos (by rw [deb_at hF]; exact hi)]
    · rw [h, if_neg (by rw [deb_at hF, hi]; decide)]
  p6 := fun h W hG => (parseHackage_any s W a ae ai au hG.toGl (by omega) (hA.resolve_left (by omega))).mono fun _ _ ⟨cs, er, he, h1, hB⟩ => by
    refine ⟨cs, ?_, hB⟩
    have e : ecoEr ai s 6 = if hackOK s then .nilIface else .iface 364 (.pointer (some ai)) := rfl
    rw [he, e]
    rcases h1 with ⟨hn, h⟩ | ⟨hn, h⟩
    · rw [h, if_pos ((hack_eq s).1 hn)]
    · rw [h, if_neg (fun h2 => hn ((hack_eq s).2 h2))]
  p7 := fun h W hG => agg_rv (parseMaven_any 1200 (strOK_of strB_1200) s W a ae ai au hG.toGl (by omega) hs (by omega) (by omega) (hA.resolve_left (by omega)))
  p8 := fun h W hG => agg_rv (parseNuGet_any s W a ae ai au (fcb_all 4 s (by omega) hs strB_1200) hG.toGl (by omega) (hA.resolve_left (by omega)))
  p9 := fun h W _ => agg_rv (parsePackagist_any s W (by omega) (hA.resolve_left (by omega)))
  p10 := fun h W hG => agg_rv (parsePub_any s W a ae ai au (fcb_all 3 s (by omega) hs strB_1200) hG.toGl (by omega) (hA.resolve_left (by omega)))
  p11 := fun h W hG => (parsePyPI_any s W a ae ai au hG.toGl (by omega) (hA.resolve_left (by omega))).mono fun _ _ ⟨cs, he, hB⟩ => ⟨cs, he, hB⟩
  p12 := fun h W hG => agg_rv (parseRuby_any s W a ae ai au hG.toGl (by omega) (hA.resolve_left (by omega)))
  e1 := fun k hk => by
    rcases hk with rfl | rfl | rfl | rfl | rfl | rfl | rfl <;> rfl
set_option maxRecDepth 100000 in
set_option maxHeartbeats 4000000 in
theorem fnEco_all (name s : ByteArray) (w : World) (a ae ai au : Addr) (hG : Gt w a ae ai au) :
    Calls Tryz.prog 3 #[.string name, .string s] w fun e w' => e = .returned (.bool true) ∧ Below w.heap.size w w' := by
  have HG := Lib.hid hG
  clear hG
  by_cases hb : 2147483647 < name.size
  · have hb' : (2147483647 : Int) < name.size := by omega
    go_enter Tryz.func3, Tryz.ntmps3
    go_wp2_with fail
    go_ret
    exact ⟨rfl, Below.refl _ _⟩
  by_cases hb2 : 2147483647 < s.size
  · have hb' : ¬ (2147483647 : Int) < name.size := by omega
    have hb2' : (2147483647 : Int) < s.size := by omega
    go_enter Tryz.func3, Tryz.ntmps3
    go_wp2_with fail
    go_ret
    exact ⟨rfl, Below.refl _ _⟩
  have hb' : ¬ (2147483647 : Int) < name.size := by omega
  have hb2' : ¬ (2147483647 : Int) < s.size := by omega
  obtain ⟨W0, hW0⟩ : ∃ W0, W0 = w.alloc (.cells #[.string name, .string s] 9) := ⟨_, rfl⟩
  have HB0 : Hid (Below w.heap.size w W0) := by rw [hW0]; exact (Below.refl _ _).alloc (Nat.le_refl _) _
  have H5 := Lib.hid (short_any name s w.heap.size 2 W0 (by rw [hW0]; rw [Lib.cell_of_heap (heap_alloc_new w _)]; rfl) (by rw [hW0]; rw [Lib.cell_of_heap (heap_alloc_new w _)]; rfl) (by omega) (by omega))
  have H6 : Hid (∀ W, name.size ≤ 1200 → s.size ≤ 1200 → Calls Tryz.prog 6 #[.string name, .string s] W (EkPost W (kindB (bareL (bs name)) = 4 ∨ Asc (bs s)))) := fun W h1 h2 => ecoKnown_any name s W (by omega) (by omega)
  have H7 : Hid (∀ W, Gt W a ae ai au → name.size ≤ 1200 → s.size ≤ 1200 → (kindB (bareL (bs name)) = 4 ∨ Asc (bs s)) → Calls Tryz.prog 7 #[.string name, .string s] W (EcoPost W (kindB (bareL (bs name))) (decide (0 < kindB (bareL (bs name))) && okB (kindB (bareL (bs name))) s))) :=
    fun W hg h1 h2 hA => eco_any s name W a ae ai au (ecoEr ai s) hg (pok_all s a ae ai au _ h2 hA) (by omega) (fun k => okB k s) (fun k => rfl)
  have H8 : Hid (∀ W, name.size ≤ 1200 → s.size ≤ 1200 → Calls Tryz.prog 8 #[.string name, .string s] W (SpEcoPost W (kindB (bareL (bs name))) (decide (0 < kindB (bareL (bs name))) && okB (kindB (bareL (bs name))) s))) := fun W h1 h2 => spEco_any name s W (by omega) (by omega)
  generalize (decide (0 < kindB (bareL (bs name))) && okB (kindB (bareL (bs name))) s) = ok at H7 H8
  generalize kindB (bareL (bs name)) = k at H6 H7 H8
  go_enter Tryz.func3, Tryz.ntmps3
  go_wp2_with (first
    | (go_at_call 5; rw [← hW0]; clear hW0; refine H5.out.mono ?_; rintro e w1 ⟨b, rfl, hsz, rfl⟩; cases b <;> have HSZ := Lib.hid hsz <;> clear hsz)
    | (go_at_call 6; refine (H6.out W0 (HSZ.out (by first | rfl | trivial)).1 (HSZ.out (by first | rfl | trivial)).2).mono ?_; rintro e w2 ⟨b, rfl, hp, hB⟩; have HB1 := Lib.hid hB; clear hB; cases b <;> have HP := Lib.hid hp <;> clear hp)
    | (go_at_call 7; refine (H7.out w2 (gt_below (gt_below HG.out HB0.out) HB1.out) (HSZ.out (by first | rfl | trivial)).1 (HSZ.out (by first | rfl | trivial)).2 (HP.out (by first | rfl | trivial))).mono ?_; rintro e w3 ⟨rfl, hB⟩; have HB2 := Lib.hid hB; clear hB)
    | (go_at_call 8; refine (H8.out w3 (HSZ.out (by first | rfl | trivial)).1 (HSZ.out (by first | rfl | trivial)).2).mono ?_; rintro e w4 ⟨rfl, hB⟩; have HB3 := Lib.hid hB; clear hB))
  · go_ret
    exact ⟨rfl, HB0.out⟩
  · go_ret
    exact ⟨rfl, HB0.out.trans (HB1.out.mono HB0.out.size)⟩
  all_goals
    go_ret
    exact ⟨rfl, HB0.out.trans ((HB1.out.trans ((HB2.out.trans (HB3.out.mono HB2.out.size)).mono HB1.out.size)).mono HB0.out.size)⟩
end Go.Proofs.YtoofphhfealcaaaGreatDoor

namespace Go.Proofs.YtoofphhfealcaaaGreatDoor
open Go.ChangeShapes Go.WideShapes Go.ChangeAt Go.RowKit
open Go.ChangeMaps (open_string shut_string)
set_option maxRecDepth 100000 in
theorem eco_lifted (os : Os) (started : os.Started) (H : Type) (enc : TypeId × Value → H) :
    ReturnsInHanded {} Tryz.checked os 3 .any (fun w args => (Rows.fnEcosystemSpec.pre enc Tryz.prog Tryz.f3 Rows.fnEcosystemRow.domain false w args ∧ laidMetH Tryz.prog Rows.fnEcosystemRow.laid w) ∧ sizedMet enc Tryz.prog Tryz.f3 (OpenSpec.ofChange Rows.fnEcosystemSpec) false w args)
      (Rows.fnEcosystemSpec.post enc Tryz.prog Tryz.f3 false true false false) := by
  refine handed_and_shaped (C := Tryz.checked) (X := fun w _ => laidMetH Tryz.prog Rows.fnEcosystemRow.laid w) (fun _ _ _ hh h => h.of_heap hh) own started (by kernel_rfl) Tryz.func3
    (ChangeSpec.witness_shaped (enc := enc) (C := Tryz.checked) (os := os) (X := fun w _ => laidMetH Tryz.prog Rows.fnEcosystemRow.laid w) false (World.laidAll Tryz.prog os Rows.fnEcosystemRow.laid) eargs 8 (World.laidAll_os _ _ _)
      (World.shaped_of_ZipB (ewit_v os) (ewit_r os)) (ewit_ok os) (ewit_pre os enc) (ewit_sz os enc)
      (by rw [MakeChecks.laidMetH_plain _ _ _ (by kernel_rfl)]; exact laidMet_laidAll _ (ewit_f os) (ewit_i os))) ?_
  intro W base args ds gs before hval0 hW hsh hL0
  have hval : ∀ (j : Nat) t v, Tryz.f3.params[j]? = some t → args[j]? = some v → Value.okWide Tryz.prog W .any base t v := hval0
  have hL : laidMet Tryz.prog Rows.fnEcosystemRow.laid W := by
    rw [← MakeChecks.laidMetH_plain _ _ _ (by kernel_rfl)]
    exact hL0
  obtain ⟨a, ae, ai, au, hG⟩ := gt_of_laid (size20 hsh) hL
  have hW' := hW
  obtain ⟨p, q, hA0, hV, rfl, hfz, hnd⟩ := hW
  have hA : DataW.TrodAll enc Tryz.prog W 0 (fun _ => true) true Tryz.f3.params.toList args.toList ds p := hA0
  rw [Tryz.params3] at hA hval
  obtain ⟨v0, v1, d0, d1, p0, p1, rfl, rfl, rfl, h0, h1⟩ := trodAll_two hA
  obtain ⟨rfl, rfl⟩ := trodVars_none hV
  obtain ⟨a0, rfl, rfl, rfl, w0⟩ := open_string Tryz.underlying9 (hval 0 9 v0 rfl rfl) h0
  obtain ⟨a1, rfl, rfl, rfl, w1⟩ := open_string Tryz.underlying9 (hval 1 9 v1 rfl rfl) h1
  clear hA0 hval0
  simp only [List.append_nil] at hW'
  refine (fnEco_all a0 a1 W a ae ai au hG).mono fun e W' ⟨he, hB⟩ => ?_
  subst he
  exact ⟨_, rfl, _, _, _, [], [], [], hW', trodAll_mk1 (shut_bool Tryz.underlying4 _), trodAll_mk2 (shut_string Tryz.underlying9 w0) (shut_string Tryz.underlying9 w1), rfl, hB.frame _, fun h => by cases h⟩
theorem eco_holds : Rows.FnEcosystemSaid :=
  OpenClaim.holds_of_wide 3 Tryz.f3 rfl rfl rfl rfl rfl rfl rfl ⟨rfl, rfl, rfl, rfl, rfl⟩ rfl rfl rfl rfl rfl (by kernel_rfl) Tryz.func3 eco_facts
    (of_decide_eq_true (by kernel_rfl)) (by unfold Func.isWrapper; rw [if_neg (of_decide_eq_false (by kernel_rfl))]; exact ⟨rfl, rfl⟩)
    (fun os started H enc _ => eco_lifted os started H enc)
end Go.Proofs.YtoofphhfealcaaaGreatDoor

namespace Go.Proofs.YtoofphhfealcaaaGreatDoor
open Go
theorem eco_card : Rows.FnEcosystemCardSaid :=
  Claim7.holds_tied_plain_at .later [] [.data, .data, .data, .sentinel, .listed, .data, .sentinel, .sentinel, .data, .data, .data, .data, .data, .sentinel, .sentinel, .pinned, .pinned] true (true, "368e00661bba74d92d5cbe9ad7d7bf039405868c2f57a9d803b8531348ec1a8e") true
    eco_holds (fun _ h => by cases h) ecard_wf (fun _ h => by cases h) fnEcosystem_row_tie rfl ⟨rfl, rfl⟩ ecard_main rfl
    (fun f fn hf hfn => by
      obtain rfl : f = 3 := Option.some.inj (ecard_fn.symm.trans hf) |>.symm
      obtain rfl : fn = Tryz.f3 := (Option.some.inj (Tryz.func3.symm.trans hfn)).symm
      exact ⟨ecard_looks, fun j t ht => by
        rw [Tryz.params3] at ht
        have hm : t ∈ [9, 9] := by simpa using Array.mem_of_getElem? ht
        exact (show Tryz.prog.wantsStandIn t = false by simpa using List.all_eq_true.1 ecard_std t hm)⟩)
    ecard_goes
#print axioms eco_card
end Go.Proofs.YtoofphhfealcaaaGreatDoor
