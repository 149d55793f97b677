/-
  WALKS: Maven's versions, at texts of ASCII: tokens, trims.
  WALKS: Maven's versions, at texts of ASCII: the tokens.
-/
import Derived.Test.YtoofphhfealcaaaGreatDoorJ3
namespace Go.Proofs.YtoofphhfealcaaaGreatDoor
open Go.RowKit

set_option maxRecDepth 100000 in
set_option maxHeartbeats 2000000 in
/-- A token trims or not. -/
theorem shouldTrim_any (g o : Nat) (v : ByteArray) (w : World) (hc : w.cell? ⟨g, o + 1, none⟩ = some (.string v)) : Calls Tryz.prog 86 #[.pointer (some ⟨g, o, none⟩)] w fun e w' => (∃ b, e = .returned (.bool b)) ∧ w = w' := by
  go_enter Tryz.func86, Tryz.ntmps86
  go_wp2_with fail
  all_goals (go_ret; exact ⟨⟨_, rfl⟩, rfl⟩)

theorem und57 : Tryz.prog.underlying 57 = some (.slice 161) := by kernel_rfl
theorem info161 : (Tryz.prog.info? 161).map (fun i => (i.zero, i.size, i.bytes)) = some (some (.agg #[.string (mk []), .string (mk []), .bool false]), 3, 40) := by kernel_rfl
/-- The cells of tokens. -/
def tkc (l : List (ByteArray × ByteArray)) : List Value := l.flatMap fun x => [.string x.1, .string x.2, .bool false]
theorem tkc_len (l : List (ByteArray × ByteArray)) : (tkc l).length = l.length * 3 := by
  induction l with
  | nil => rfl
  | cons x l ih => simp only [tkc, List.flatMap_cons, List.length_append, List.length_cons, List.length_nil] at ih ⊢; omega
theorem tkc_app (l m : List (ByteArray × ByteArray)) : tkc (l ++ m) = tkc l ++ tkc m := by simp [tkc]
theorem tkc_get (l : List (ByteArray × ByteArray)) (k : Nat) (h : k < l.length) : (tkc l)[k * 3]? = some (.string l[k].1) ∧ (tkc l)[k * 3 + 1]? = some (.string l[k].2) ∧ (tkc l)[k * 3 + 2]? = some (.bool false) := by
  induction l generalizing k with
  | nil => simp at h
  | cons x l ih =>
    have e : tkc (x :: l) = [.string x.1, .string x.2, .bool false] ++ tkc l := by simp [tkc]
    rw [e]
    cases k with
    | zero => simp
    | succ k =>
      have := ih k (by simpa using h)
      rw [show (k + 1) * 3 = k * 3 + 3 by omega, List.getElem?_append_right (by simp), List.getElem?_append_right (by simp), List.getElem?_append_right (by simp)]
      simpa [show k * 3 + 3 + 1 - 3 = k * 3 + 1 by omega, show k * 3 + 3 + 2 - 3 = k * 3 + 2 by omega] using this
/-- Tokens of the call's own, behind a slice. -/
def Tks (w : World) (base : Nat) (v : Value) (l : List (ByteArray × ByteArray)) : Prop := w.ownsRow base 161 3 v l.length (tkc l)
section
variable {ops : Array Oper} {rest : List Oper} {o : Oper} {a : Act} {Q : Exit → Act → World → Prop}
/-- append of one token. -/
theorem app_tok {W : World} (base : Nat) (hgd : o.guard = none) (s x : Operand)
    (ho : o.op = .call { callee := .builtin .append, args := #[s, x], argTypes := #[57, 57] })
    (v : Value) (l : List (ByteArray × ByteArray)) (p q : ByteArray) (HO : Tks W base v l) (hs : a.eval s = v) (hx : a.eval x = .slice (some ⟨W.heap.size, 0, none⟩) 1 1)
    (hbase : base ≤ W.heap.size) (hl : l.length ≤ 1099511627776)
    (h : ∀ v1 w1, Tks w1 base v1 (l ++ [(p, q)]) → W.grownBy w1 v.ownBlock → (v1.ownBlock = v.ownBlock ∨ v1.ownBlock = some (W.heap.size + 1)) → wpList Tryz.prog ops Q rest (a.put o.dst v1) w1) :
    wpList Tryz.prog ops Q (o :: rest) a (W.alloc (.cells #[.string p, .string q, .bool false] 161)) := by
  obtain ⟨i0, hi, hzz⟩ := Option.map_eq_some_iff.1 info161
  simp only [Prod.mk.injEq] at hzz
  obtain ⟨hz0, hz1, hz2⟩ := hzz
  refine wpList_append_own_at (W.alloc (.cells #[.string p, .string q, .bool false] 161)) hgd s x 57 ho base 161 i0 (.agg #[.string (mk []), .string (mk []), .bool false]) 3 40 und57 hi hz0 hz1 hz2 rfl (by omega) v l.length _ hs (World.ownsRow.alloc HO _) ⟨W.heap.size, 0, none⟩ 1 1 [.string p, .string q, .bool false] hx rfl
    (fun j u hj => ?_) (by simp [Value.oneCell']) (by simp only [maxLen]; omega) (by omega) (by simp; omega) ?_
  · have hh := heap_alloc_new W (.cells #[.string p, .string q, .bool false] 161)
    have ha : ((⟨W.heap.size, 0, none⟩ : Addr).add j) = ⟨W.heap.size, j, none⟩ := by
      unfold Addr.add
      split <;> simp_all
    rw [ha]
    simp only [World.cell?, hh]
    rcases j with _ | _ | _ | j
    all_goals first | exact hj | (exfalso; simp at hj)
  intro v1 w1 hown hg _ hv
  rw [World.size_alloc] at hv
  refine h v1 w1 ?_ (World.grownBy.trans (World.grownBy_alloc W _ _) hg) hv
  unfold Tks
  rw [tkc_app]
  simpa [tkc] using hown
end
theorem elem57 : Tryz.prog.underlying 57 = some (.slice (Tryz.prog.elem 57)) := by kernel_rfl
theorem elem57' : Tryz.prog.elem 57 = 161 := by kernel_rfl
theorem size161 (W : World) : (sizeOf 161).run Tryz.prog W = .ok 3 W := by
  obtain ⟨i0, hi, hzz⟩ := Option.map_eq_some_iff.1 info161
  simp only [Prod.mk.injEq] at hzz
  simp [sizeOf, typeInfo, hi, hzz.2.1]
/-- Where the rest of a row of tokens begins. -/
def tkAd (g c k : Nat) : Addr := if c = k then ⟨g, 0, none⟩ else ⟨g, k * 3, none⟩
theorem slice_tkhi (g n c i : Nat) (h : i ≤ c) (W : World) : (Instr.slice 57 (.slice (some ⟨g, 0, none⟩) n c) none (some (.int .i64 (i : Int))) none).run Tryz.prog W = .ok (.slice (some ⟨g, 0, none⟩) i c) W := by
  rw [run_slice_h (P := Tryz.prog) (w := W) 57 (some ⟨g, 0, none⟩) n c elem57 .i64 (i : Int) (by omega) (by omega), elem57', size161]
  simp [Result.andThen, sliced, Addr.add]
theorem slice_tklo (g n c i : Nat) (h : i ≤ n) (A : Int) (hA : A = (i : Int)) (W : World) : (Instr.slice 57 (.slice (some ⟨g, 0, none⟩) n c) (some (.int .i64 A)) none none).run Tryz.prog W = .ok (.slice (some (tkAd g c i)) (n - i) (c - i)) W := by
  subst hA
  rw [run_slice_l (P := Tryz.prog) (w := W) 57 (some ⟨g, 0, none⟩) n c elem57 .i64 (i : Int) (by omega) (by omega), elem57', size161]
  simp only [Result.andThen, sliced, tkAd, Int.toNat_natCast]
  by_cases hc : c = i
  · simp [hc]
  · simp [hc, Addr.add_lit]
theorem tkc_take (l : List (ByteArray × ByteArray)) (i : Nat) (h : i ≤ l.length) : (tkc l).take (i * 3) = tkc (l.take i) := by
  have e : tkc l = tkc (l.take i) ++ tkc (l.drop i) := by rw [← tkc_app, List.take_append_drop]
  rw [e, List.take_left']
  rw [tkc_len, List.length_take]
  omega
theorem tkc_drop (l : List (ByteArray × ByteArray)) (i : Nat) (h : i ≤ l.length) : (tkc l).drop (i * 3) = tkc (l.drop i) := by
  have e : tkc l = tkc (l.take i) ++ tkc (l.drop i) := by rw [← tkc_app, List.take_append_drop]
  rw [e, List.drop_left']
  rw [tkc_len, List.length_take]
  omega
theorem tks_take {W : World} {base g c i : Nat} {l : List (ByteArray × ByteArray)} (h : Tks W base (.slice (some ⟨g, 0, none⟩) l.length c) l) (hi : i ≤ l.length) : Tks W base (.slice (some ⟨g, 0, none⟩) i c) (l.take i) := by
  have hl : (l.take i).length = i := by rw [List.length_take]; omega
  refine ⟨tkc_len _, .inr ?_⟩
  rcases h.2 with ⟨h1, _⟩ | ⟨g', c', cur, h1, hb, hh, h2, h3, h4, h5⟩
  · cases h1
  · injection h1 with h1 h6 h7
    injection h1 with h1
    injection h1 with h1
    subst h1
    subst h7
    refine ⟨g, c, cur, by rw [hl], hb, hh, by omega, h3, h4, ?_⟩
    rw [hl, ← tkc_take l i hi, ← h5, List.take_take]
    congr 1
    omega
section
variable {ops : Array Oper} {o : Oper} {a : Act} {W : World} {K : Act → World → Prop} {Q : Exit → Act → World → Prop} {E : Prop}
/-- One token is taken out, in a region that draws its order. -/
theorem step_tok (base : Nat) (hgd : o.guard = none) (sl x : Operand)
    (ho : o.op = .call { callee := .builtin .append, args := #[sl, x], argTypes := #[57, 57] })
    (l : List (ByteArray × ByteArray)) (g c i : Nat) (HO : Tks W base (.slice (some ⟨g, 0, none⟩) l.length c) l) (hi : i < l.length) (hs : a.eval sl = .slice (some ⟨g, 0, none⟩) i c) (hx : a.eval x = .slice (some (tkAd g c (i + 1))) (l.length - (i + 1)) (c - (i + 1)))
    (hbase : base ≤ W.heap.size) (hl : l.length ≤ 1099511627776)
    (h : ∀ v1 w1, Tks w1 base v1 (l.take i ++ l.drop (i + 1)) → W.grownBy w1 (some g) → K (a.put o.dst v1) w1) :
    if Region.wanted o (yielded ops a.tmps) = true then Oper.wp Tryz.prog o a W K Q else E := by
  obtain ⟨i0, hi0, hzz⟩ := Option.map_eq_some_iff.1 info161
  simp only [Prod.mk.injEq] at hzz
  obtain ⟨hz0, hz1, hz2⟩ := hzz
  have hw : Region.wanted o (yielded ops a.tmps) = true := by simp [Region.wanted, hgd]
  rw [if_pos hw]
  have HT := tks_take HO (i := i) (by omega)
  have ht : (l.take i).length = i := by rw [List.length_take]; omega
  unfold Tks at HT
  rw [ht] at HT
  obtain ⟨v', w', hr, h2, h3, h4, h5⟩ := run_append_own_at (P := Tryz.prog) W base 57 o.type 161 i0 (.agg #[.string (mk []), .string (mk []), .bool false]) 3 40 und57 hi0 hz0 hz1 hz2 rfl (by omega) (.slice (some ⟨g, 0, none⟩) i c) i _ HT (tkAd g c (i + 1)) (l.length - (i + 1)) (c - (i + 1)) (tkc (l.drop (i + 1)))
    (by rw [tkc_len, List.length_drop])
    (fun j u hj => by
      have hlt : j < (tkc (l.drop (i + 1))).length := (List.getElem?_eq_some_iff.1 hj).1
      rw [tkc_len, List.length_drop] at hlt
      have hcl : l.length ≤ c := by
        rcases HO.2 with ⟨h1, _⟩ | ⟨g', c', cur, h1, hb, hh, h2, _⟩
        · cases h1
        · injection h1 with h1 h6 h7
          omega
      have ha : (tkAd g c (i + 1)).add j = ⟨g, (i + 1) * 3 + j, none⟩ := by
        unfold tkAd
        rw [if_neg (by omega), Addr.add_lit]
      rw [ha]
      have := World.ownsRow.cells HO (g := g) rfl ((i + 1) * 3 + j) u (by rw [← List.getElem?_drop, tkc_drop l (i + 1) (by omega)]; exact hj)
      rw [Addr.add_lit] at this
      simpa using this)
    (by
      intro u hu
      simp only [tkc, List.mem_flatMap, List.mem_cons, List.mem_nil_iff, or_false] at hu
      obtain ⟨x, _, rfl | rfl | rfl⟩ := hu <;> rfl) (by unfold maxLen; omega) (by omega) hbase
  unfold Oper.wp execOp
  simp only [ho, resolve, invoke, builtin, Sem.run_bind, Sem.run_pure, Result.andThen_ok, List.map_toArray, List.map_cons, List.map_nil, hs, hx, hr]
  refine h v' w' ?_ h3
  unfold Tks
  rw [tkc_app, List.length_append, ht, List.length_drop]
  exact h2
end
end Go.Proofs.YtoofphhfealcaaaGreatDoor

namespace Go.Proofs.YtoofphhfealcaaaGreatDoor
open Go.RowKit

/-- What the walk through newMavenVersion keeps: the pieces' row (below b1), the tokens' row (from b1 on), the result's cell. -/
structure Nm (w0 wr : World) (b0 b1 : Nat) (V : Value) (ls : List ByteArray) (v : Value) (l : List (ByteArray × ByteArray)) : Prop where
  ps : Strs wr b0 V ls
  psl : ∀ g, V.ownBlock = some g → g < b1
  tk : Tks wr b1 v l
  res : wr.heap[w0.heap.size]? = some (.cells #[.slice none 0 0] 59)
  below : Below w0.heap.size w0 wr
  sz : w0.heap.size < b0 ∧ b0 ≤ b1 ∧ b1 ≤ wr.heap.size
theorem nm_below {w0 wr w1 : World} {b0 b1 : Nat} {V v : Value} {ls : List ByteArray} {l : List (ByteArray × ByteArray)} (h : Nm w0 wr b0 b1 V ls v l) (hb : Below wr.heap.size wr w1) : Nm w0 w1 b0 b1 V ls v l := by
  obtain ⟨s0, s1, s2⟩ := h.sz
  exact ⟨strs_below h.ps hb, h.psl, row_below h.tk hb, by rw [hb.block _ (by omega)]; exact h.res, h.below.trans (hb.mono h.below.size), s0, s1, Nat.le_trans s2 hb.size⟩
theorem nm_tok {w0 wr w1 : World} {b0 b1 : Nat} {V v v1 : Value} {ls : List ByteArray} {l l1 : List (ByteArray × ByteArray)} (h : Nm w0 wr b0 b1 V ls v l) (ht : Tks w1 b1 v1 l1) (hg : wr.grownBy w1 v.ownBlock) : Nm w0 w1 b0 b1 V ls v1 l1 := by
  obtain ⟨s0, s1, s2⟩ := h.sz
  have hlo : ∀ k, some k = v.ownBlock → b1 ≤ k := fun k e => (World.ownsRow.lt h.tk k e.symm).1
  refine ⟨World.ownsRow.kept h.ps hg ?_, h.psl, ht, by rw [hg.block _ (by omega) (fun e => by have := hlo _ e; omega)]; exact h.res, h.below.trans ⟨hg.os, hg.tape, hg.output, hg.size, fun k hk => hg.block k (by omega) (fun e => by have := hlo _ e; omega)⟩, s0, s1, Nat.le_trans s2 hg.size⟩
  rcases hV : V.ownBlock with _ | g
  · exact .inl rfl
  · refine .inr fun e => ?_
    have h1 := h.psl g hV
    have h2 := hlo g e
    omega
/-- Transitions in hand: their row lies in [b2, b3), where no token lies. -/
structure Nt (wr : World) (b2 b3 : Nat) (V2 : Value) (zs : List Int) (v : Value) : Prop where
  ints : Ins wr b2 V2 zs
  rng : ∀ g, V2.ownBlock = some g → g < b3
  far : ∀ g, v.ownBlock = some g → g < b2 ∨ b3 ≤ g
  sz : b3 ≤ wr.heap.size
theorem nt_below {wr w1 : World} {b2 b3 : Nat} {V2 v : Value} {zs : List Int} (h : Nt wr b2 b3 V2 zs v) (hb : Below wr.heap.size wr w1) : Nt w1 b2 b3 V2 zs v := ⟨row_below h.ints hb, h.rng, h.far, Nat.le_trans h.sz hb.size⟩
theorem nt_tok {wr w1 : World} {b2 b3 : Nat} {V2 v v1 : Value} {zs : List Int} {m : Nat} (h : Nt wr b2 b3 V2 zs v) (hg : wr.grownBy w1 v.ownBlock) (hv : v1.ownBlock = v.ownBlock ∨ v1.ownBlock = some m) (hm : b3 ≤ m) : Nt w1 b2 b3 V2 zs v1 := by
  refine ⟨World.ownsRow.kept h.ints hg ?_, h.rng, fun g hg2 => ?_, Nat.le_trans h.sz hg.size⟩
  · rcases hV : V2.ownBlock with _ | g
    · exact .inl rfl
    · refine .inr fun e => ?_
      have h1 := h.rng g hV
      have h2 := (World.ownsRow.lt h.ints g hV).1
      have h3 := h.far g e.symm
      omega
  · rcases hv with e | e
    · exact h.far g (by rw [← e]; exact hg2)
    · rw [e] at hg2
      injection hg2 with hg2
      omega
/-- String at a number: a text, and new blocks alone. -/
def StrOK (n : Nat) : Prop := ∀ (w : World) (base p : Nat) (s : ByteArray) (a ae ai au : Addr), Gl w a ae ai au → BigAt w base p s → isNum (bs s) = true → s.size ≤ n → Calls Tryz.prog 85 #[.pointer (some ⟨p, 0, none⟩)] w fun e w' => ∃ t, e = .returned (.string t) ∧ Below w.heap.size w w'
end Go.Proofs.YtoofphhfealcaaaGreatDoor
