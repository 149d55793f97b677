/-
  THE ROW FnEcosystems, PROVED.
-/
import Derived.Test.YtoofphhfealcaaaGreatDoorM7
import Derived.Test.YtoofphhfealcaaaGreatDoorT4
namespace Go.Proofs.YtoofphhfealcaaaGreatDoor
open Go.ChangeShapes Go.WideShapes Go.ChangeAt Go.RowKit
open Go.ChangeMaps (open_string shut_string)

/-- The row's form, the world's shape handed on to the contract. -/
theorem handed_and_shaped {H : Type} {enc : TypeId × Value → H} {a : Assume} {C : Checked} {os : Os} {f : FuncId} {fn : Func} {s : ChangeSpec} {conds : List PathCond} {apart fresh handsOn again : Bool} {X : World → Array Value → Prop}
    (hX : ∀ (w w' : World) (args : Array Value), w.heap = w'.heap → X w args → X w' args)
    (own : ownKnob C.prog.godebug = none) (started : os.Started) (noInit : C.prog.inits.idxOf? f = none) (hfn : C.prog.funcs[f]? = some fn)
    (witness : ∃ (w : World) (tape : Tape) (i : Input), w.os = os ∧ (w.forCall tape i).Shaped C.prog ∧ i.vars = [] ∧ Input.okWide C.prog (w.forCall tape i) .any w.heap.size f i ∧
      ((s.pre enc C.prog fn conds apart (w.forCall tape i).memory i.args ∧ X (w.forCall tape i).memory i.args) ∧ sizedMet enc C.prog fn (OpenSpec.ofChange s) apart (w.forCall tape i).memory i.args) ∧ a.holds C.prog (lone (Frame.enter C.prog f i.args .normal) [] (w.forCall tape i)))
    (contract : ∀ (W : World) (base : Nat) (args : Array Value) (ds gs : List (DataW H)) (before : List MemPlace),
      (∀ (j : Nat) t v, fn.params[j]? = some t → args[j]? = some v → Value.okWide C.prog W .any base t v) →
      DataW.Whole enc C.prog fn.params.toList s.vars apart W args.toList ds gs before →
      W.ShapedOpen C.prog → X W args →
      Calls C.prog f args W fun e W' => ∃ v, e = .returned v ∧ s.post enc C.prog fn apart fresh handsOn again W args v W') :
    ReturnsInHanded a C os f .any (fun w args => (s.pre enc C.prog fn conds apart w args ∧ X w args) ∧ sizedMet enc C.prog fn (OpenSpec.ofChange s) apart w args) (s.post enc C.prog fn apart fresh handsOn again) := by
  refine returnsInHanded_of_calls own started noInit witness ?_
  intro w tape i _ hsh _ hok hpre hholds
  obtain ⟨_, _, _, fn', hfn', _, _, _, _, hval⟩ := hok
  have e : fn' = fn := Option.some.inj (hfn'.symm.trans hfn)
  subst e
  obtain ⟨⟨⟨ds, gs, before, hw, hc⟩, hx⟩, hz⟩ := hpre
  have hw' := DataW.Whole.of_heap (w' := w.forCall tape i) (by rfl) hw
  refine (contract (w.forCall tape i) w.heap.size i.args ds gs before hval hw' hsh (hX _ _ _ (by rfl) hx)).mono fun e W' ⟨v, he, hp⟩ => ?_
  subst he
  exact ChangeSpec.post_blind hp

set_option maxRecDepth 100000 in
theorem ecos_lifted (os : Os) (started : os.Started) (H : Type) (enc : TypeId × Value → H) :
    ReturnsInHanded {} Tryz.checked os 4 .any (fun w args => (Rows.fnEcosystemsSpec.pre enc Tryz.prog Tryz.f4 Rows.fnEcosystemsRow.domain false w args ∧ laidMetH Tryz.prog Rows.fnEcosystemsRow.laid w) ∧ sizedMet enc Tryz.prog Tryz.f4 (OpenSpec.ofChange Rows.fnEcosystemsSpec) false w args)
      (Rows.fnEcosystemsSpec.post enc Tryz.prog Tryz.f4 false true false false) := by
  refine handed_and_shaped (C := Tryz.checked) (X := fun w _ => laidMetH Tryz.prog Rows.fnEcosystemsRow.laid w) (fun _ _ _ hh h => h.of_heap hh) own started (by kernel_rfl) Tryz.func4
    (ChangeSpec.witness_shaped (enc := enc) (C := Tryz.checked) (os := os) (X := fun w _ => laidMetH Tryz.prog Rows.fnEcosystemsRow.laid w) false (World.laidAll Tryz.prog os Rows.fnEcosystemsRow.laid) wargs 8 (World.laidAll_os _ _ _)
      (World.shaped_of_ZipB (wit_v os) (wit_r os)) (wit_ok os) (wit_pre os enc) (wit_sz os enc)
      (by rw [MakeChecks.laidMetH_plain _ _ _ (by kernel_rfl)]; exact laidMet_laidAll _ (wit_f os) (wit_i os))) ?_
  intro W base args ds gs before hval0 hW hsh hL0
  have hval : ∀ (j : Nat) t v, Tryz.f4.params[j]? = some t → args[j]? = some v → Value.okWide Tryz.prog W .any base t v := hval0
  have hL : laidMet Tryz.prog Rows.fnEcosystemsRow.laid W := by
    rw [← MakeChecks.laidMetH_plain _ _ _ (by kernel_rfl)]
    exact hL0
  obtain ⟨a, ae, ai, au, hG⟩ := gt_of_laid (size20 hsh) hL
  have hW' := hW
  obtain ⟨p, q, hA0, hV, rfl, hfz, hnd⟩ := hW
  have hA : DataW.TrodAll enc Tryz.prog W 0 (fun _ => true) true Tryz.f4.params.toList args.toList ds p := hA0
  rw [Tryz.params4] at hA hval
  obtain ⟨v0, v1, v2, d0, d1, d2, p0, p1, p2, rfl, rfl, rfl, h0, h1, h2⟩ := trodAll_three hA
  obtain ⟨rfl, rfl⟩ := trodVars_none hV
  obtain ⟨a0, rfl, rfl, rfl, w0⟩ := open_int Tryz.underlying5 (hval 0 5 v0 rfl rfl) h0
  obtain ⟨a1, rfl, rfl, rfl, w1⟩ := open_int Tryz.underlying5 (hval 1 5 v1 rfl rfl) h1
  obtain ⟨a2, rfl, rfl, rfl, w2⟩ := open_string Tryz.underlying9 (hval 2 9 v2 rfl rfl) h2
  clear hA0 hval0
  simp only [List.append_nil] at hW'
  have b0 := bounds_u8 w0
  have b1 := bounds_u8 w1
  obtain ⟨so, rfl⟩ := Int.eq_ofNat_of_zero_le b0.1
  obtain ⟨at', rfl⟩ := Int.eq_ofNat_of_zero_le b1.1
  refine (law_ok so at' (by omega) (by omega) a2 W a ae ai au hG).mono fun e W' ⟨he, hB⟩ => ?_
  subst he
  exact ⟨_, rfl, _, _, _, [], [], [], hW', trodAll_mk1 (shut_bool Tryz.underlying4 _), trodAll_mk3 (shut_int Tryz.underlying5 w0) (shut_int Tryz.underlying5 w1) (shut_string Tryz.underlying9 w2), rfl, hB.frame _, fun h => by cases h⟩
theorem ecos_holds : Rows.FnEcosystemsSaid :=
  OpenClaim.holds_of_wide 4 Tryz.f4 rfl rfl rfl rfl rfl rfl rfl ⟨rfl, rfl, rfl, rfl, rfl⟩ rfl rfl rfl rfl rfl (by kernel_rfl) Tryz.func4 ecos_facts
    (of_decide_eq_true (by kernel_rfl)) (by unfold Func.isWrapper; rw [if_neg (of_decide_eq_false (by kernel_rfl))]; exact ⟨rfl, rfl⟩)
    (fun os started H enc _ => ecos_lifted os started H enc)
end Go.Proofs.YtoofphhfealcaaaGreatDoor
