/-
  BASE: words and small lemmas that the walks of this claim use: bytes of a string, cuts of byte lists, worlds.
  WALKS: zzIndex, zzCut, zzSplit of package semantic at a mark of one byte.
  WALKS: zzSplit of package semantic at a mark of one byte: the pieces between the marks.
-/
import Derived.Test.YtoofphhfealcaaaGreatDoorProg
import Derived.WalkKit
import Derived.Deep.LoopGhost
import Derived.Deep.QuietTactic
import Derived.BigQuiet
import Derived.WalkSpells
import Derived.WalkLawsBesides
import Derived.Lib.Hide
import Derived.Lib.Strings
import Derived.Deep.AppendLies
import Derived.Laws.OwnMore
namespace Go.Proofs.YtoofphhfealcaaaGreatDoor
open Go.RowKit

/-- The bytes of a string, as a list. -/
def bs (s : ByteArray) : List UInt8 := s.data.toList
/-- The string of some bytes. -/
def mk (l : List UInt8) : ByteArray := ⟨l.toArray⟩
theorem bs_mk (l : List UInt8) : bs (mk l) = l := by simp [bs, mk]
theorem mk_bs (s : ByteArray) : mk (bs s) = s := by simp [bs, mk]
theorem bs_len (s : ByteArray) : (bs s).length = s.size := (Lib.size_eq s).symm
theorem mk_size (l : List UInt8) : (mk l).size = l.length := by rw [← bs_len, bs_mk]
theorem bs_inj {s t : ByteArray} (h : bs s = bs t) : s = t := by rw [← mk_bs s, h, mk_bs]
theorem bs_extract (s : ByteArray) (a b : Nat) : bs (s.extract a b) = ((bs s).drop a).take (b - a) := Lib.extract_data s a b
theorem extract_mk (s : ByteArray) (a b : Nat) : s.extract a b = mk (((bs s).drop a).take (b - a)) := Lib.extract_eq s a b
theorem toList_bs (s : ByteArray) : s.toList = bs s := Lib.toList_data s
theorem bs_get (s : ByteArray) (i : Nat) (h : i < s.size) : s[i] = (bs s)[i]'(by rw [bs_len]; exact h) := rfl

/-- What the byte lists between the marks are. -/
def cutBy (p : UInt8 → Bool) : List UInt8 → List (List UInt8)
  | [] => [[]]
  | x :: r => if p x then [] :: cutBy p r else match cutBy p r with
    | [] => [[x]]
    | h :: t => (x :: h) :: t
theorem cutBy_ne (p : UInt8 → Bool) : ∀ l, cutBy p l ≠ []
  | [] => by simp [cutBy]
  | x :: r => by
    unfold cutBy
    split
    · simp
    · split <;> simp
theorem cutBy_none (p : UInt8 → Bool) : ∀ l : List UInt8, (∀ x ∈ l, p x = false) → cutBy p l = [l]
  | [], _ => rfl
  | x :: r, h => by
    have hx := h x (by simp)
    have hr := cutBy_none p r (fun y hy => h y (by simp [hy]))
    simp [cutBy, hx, hr]
theorem cutBy_hit (p : UInt8 → Bool) : ∀ (a : List UInt8) (c : UInt8) (b : List UInt8), (∀ x ∈ a, p x = false) → p c = true → cutBy p (a ++ c :: b) = a :: cutBy p b
  | [], c, b, _, hc => by simp [cutBy, hc]
  | x :: r, c, b, h, hc => by
    have hx := h x (by simp)
    have hr := cutBy_hit p r c b (fun y hy => h y (by simp [hy])) hc
    simp [cutBy, hx, hr]
/-- A piece and its mark, or all. -/
theorem cutBy_len (p : UInt8 → Bool) : ∀ l : List UInt8, (cutBy p l).length ≤ l.length + 1
  | [] => by simp [cutBy]
  | x :: r => by
    have ih := cutBy_len p r
    unfold cutBy
    split
    · simp; exact ih
    · split
      · simp
      · rename_i h t e
        rw [e] at ih
        simp at ih ⊢
        omega
theorem cutBy_mem_len (p : UInt8 → Bool) : ∀ l : List UInt8, ∀ x ∈ cutBy p l, x.length ≤ l.length
  | [] => by simp [cutBy]
  | a :: r => by
    have ih := cutBy_mem_len p r
    unfold cutBy
    split
    · intro x hx
      simp at hx
      rcases hx with rfl | hx
      · simp
      · have := ih x hx
        simp; omega
    · split
      · intro x hx
        simp at hx
        subst hx
        simp
      · rename_i h t e
        rw [e] at ih
        intro x hx
        simp at hx
        rcases hx with rfl | hx
        · have := ih h (by simp)
          simp; omega
        · have := ih x (by simp [hx])
          simp; omega
theorem cutBy_mem (p : UInt8 → Bool) : ∀ l : List UInt8, ∀ x ∈ cutBy p l, ∀ c ∈ x, c ∈ l ∧ p c = false
  | [] => by simp [cutBy]
  | a :: r => by
    have ih := cutBy_mem p r
    unfold cutBy
    split
    · intro x hx c hc
      simp at hx
      rcases hx with rfl | hx
      · simp at hc
      · have := ih x hx c hc
        exact ⟨by simp [this.1], this.2⟩
    · rename_i hp
      split
      · intro x hx c hc
        simp at hx
        subst hx
        simp at hc
        subst hc
        exact ⟨by simp, by simpa using hp⟩
      · rename_i h t e
        rw [e] at ih
        intro x hx c hc
        simp at hx
        rcases hx with rfl | hx
        · simp at hc
          rcases hc with rfl | hc
          · exact ⟨by simp, by simpa using hp⟩
          · have := ih h (by simp) c hc
            exact ⟨by simp [this.1], this.2⟩
        · have := ih x (by simp [hx]) c hc
          exact ⟨by simp [this.1], this.2⟩

/-- A slice of strings that the call made: what it holds. -/
def Strs (w : World) (base : Nat) (v : Value) (l : List ByteArray) : Prop := w.ownsRow base 9 1 v l.length (l.map Value.string)

theorem own_base {w : World} {base : Nat} {e : TypeId} {size n : Nat} {v : Value} {xs : List Value} (h : w.ownsRow base e size v n xs) (k : Nat) (hk : v.ownBlock = some k) : base ≤ k := (h.lt k hk).1

section
variable {P : Program} {ops : Array Oper} {rest : List Oper} {o : Oper} {a : Act} {Q : Exit → Act → World → Prop}
/-- 'append(v, x)' of one element, v nil or the call's own: the walk's arm. -/
theorem app1 {w0 W : World} (base : Nat) (hgd : o.guard = none) (s x : Operand) (t e : TypeId) (z : Value) (sz bytes : Nat)
    (ho : o.op = .call { callee := .builtin .append, args := #[s, x], argTypes := #[t, t] })
    (ht : P.underlying t = some (.slice e)) (hinfo : (P.info? e).map (fun i => (i.zero, i.size, i.bytes)) = some (some z, sz, bytes)) (hz : z.cells.size = sz) (hsz : 0 < sz) (hb0 : 0 < bytes)
    (v : Value) (n : Nat) (xs : List Value) (ys : Array Value) (hs : a.eval s = v) (hx : a.eval x = .slice (some ⟨W.heap.size, 0, none⟩) 1 1) (hl : ys.size = sz) (h1 : ∀ u ∈ ys.toList, u.oneCell' = true)
    (HO : W.ownsRow base e sz v n xs) (HB : Below base w0 W) (hbase : base ≤ W.heap.size) (hbytes : (n + 1) * bytes ≤ 140737488355328)
    (h : ∀ v1 w1, w1.ownsRow base e sz v1 (n + 1) (xs ++ ys.toList) → Below base w0 w1 → W.grownBy w1 v.ownBlock → wpList P ops Q rest (a.put o.dst v1) w1) :
    wpList P ops Q (o :: rest) a (W.alloc (.cells ys e)) := by
  obtain ⟨i0, hi, hzz⟩ := Option.map_eq_some_iff.1 hinfo
  simp only [Prod.mk.injEq] at hzz
  obtain ⟨hz0, hz1, hz2⟩ := hzz
  have hlen : n + 1 ≤ 140737488355328 := Nat.le_trans (Nat.le_mul_of_pos_right _ hb0) hbytes
  refine wpList_append_own_at (W.alloc (.cells ys e)) hgd s x t ho base e i0 z sz bytes ht hi hz0 hz1 hz2 hz hsz v n xs hs (HO.alloc _) ⟨W.heap.size, 0, none⟩ 1 1 ys.toList hx (by simp [hl])
    (World.news_of_block (cs := ys) (t := e) (fr := (0, 0)) (heap_alloc_new W _)) h1 (by simp only [maxLen]; omega) hbytes (by simp; omega) ?_
  intro v1 w1 hown hg _ _
  exact h v1 w1 hown ((HB.alloc hbase _).grown hg (by simp; omega) (own_base HO)) (World.grownBy.trans (World.grownBy_alloc W _ _) hg)
end
theorem strs_nil (w : World) (base : Nat) : Strs w base (.slice none 0 0) [] := World.ownsRow_nil _ _ _ _
theorem strs_len {w : World} {base : Nat} {v : Value} {l : List ByteArray} (h : Strs w base v l) : ∃ A c, v = .slice A l.length c := by
  rcases h.2 with ⟨rfl, h0⟩ | ⟨g, cap, cur, rfl, _⟩
  · exact ⟨none, 0, by rw [h0]⟩
  · exact ⟨_, cap, rfl⟩
/-- The cells of a slice of strings that holds something. -/
theorem strs_cells {w : World} {base : Nat} {v : Value} {l : List ByteArray} (h : Strs w base v l) (hl : 0 < l.length) : ∃ g c, v = .slice (some ⟨g, 0, none⟩) l.length c ∧ base ≤ g ∧ g < w.heap.size ∧ ∀ j (hj : j < l.length), w.cell? ⟨g, j, none⟩ = some (.string l[j]) := by
  have h' := h
  rcases h.2 with ⟨rfl, h0⟩ | ⟨g, cap, cur, rfl, hb, hh, _⟩
  · omega
  · refine ⟨g, cap, rfl, hb, (Array.getElem?_eq_some_iff.1 hh).1, fun j hj => ?_⟩
    have := World.ownsRow.cellAt h' j (by simpa using hj)
    rw [this]
    simp [hj]
theorem strs_below {w w1 : World} {base : Nat} {v : Value} {l : List ByteArray} (h : Strs w base v l) (hb : Below w.heap.size w w1) : Strs w1 base v l :=
  h.kept ⟨hb.os, hb.tape, hb.output, hb.size, fun i hi _ => hb.block i hi⟩ (row := none) (by cases v.ownBlock <;> simp)

end Go.Proofs.YtoofphhfealcaaaGreatDoor

namespace Go.Proofs.YtoofphhfealcaaaGreatDoor
open Go.RowKit

/-- sub stands in s at k -/
def hit (s p : ByteArray) (k : Nat) : Bool := (s.extract k (k + p.size)).toList == p.toList

set_option maxHeartbeats 1000000 in
theorem zzIndex_any (s p : ByteArray) (w : World) (hs : s.size ≤ 4294967296) (hp : p.size ≤ 4294967296) :
    Calls Tryz.prog 37 #[.string s, .string p] w fun e w' => (∃ k : Int, e = .returned (.int .i64 k) ∧ ((k = -1 ∧ ∀ i, i + p.size ≤ s.size → hit s p i = false) ∨ ∃ i : Nat, k = i ∧ i + p.size ≤ s.size ∧ hit s p i = true ∧ ∀ j, j < i → hit s p j = false)) ∧ w = w' := by
  go_enter Tryz.func37, Tryz.ntmps37
  go_wp2
  go_loop [5] (fun i => ∃ k : Nat, k ≤ s.size + 1 ∧ i = .int .i64 k ∧ ∀ j, j < k → hit s p j = false) (fun i => s.size + 1 - (intOf i).toNat)
  case atStart => exact ⟨0, by omega, rfl, fun j h => absurd h (by omega)⟩
  case round =>
    obtain ⟨k, hk, rfl, hn⟩ := hrel
    have HN := Lib.hid hn; clear hn
    by_cases hlt : k + p.size ≤ s.size
    · have hlt' : decide ((k : Int) + p.size ≤ s.size) = true := by simp; omega
      by_cases hh : ((s.extract k (k + p.size)).toList == p.toList) = true
      · go_wp2
        go_ret
        exact ⟨⟨k, rfl, .inr ⟨k, rfl, hlt, hh, HN.out⟩⟩, rfl⟩
      · have hh' : ((s.extract k (k + p.size)).toList == p.toList) = false := by simpa using hh
        go_wp2
        go_round
        case rel => exact ⟨k + 1, by omega, by go_num, fun j hj => by
          rcases Nat.lt_succ_iff_lt_or_eq.1 hj with h | rfl
          · exact HN.out j h
          · exact hh'⟩
        case measure => simp [intOf]; omega
    · have hlt' : decide ((k : Int) + p.size ≤ s.size) = false := by simp; omega
      go_wp2
      go_ret
      exact ⟨⟨-1, rfl, .inl ⟨rfl, fun i hi => HN.out i (by omega)⟩⟩, rfl⟩

/-- One byte's own hit. -/
theorem hit_one (s : ByteArray) (c : UInt8) (k : Nat) (h : k < s.size) : hit s (mk [c]) k = ((bs s)[k]'(by rw [bs_len]; exact h) == c) := by
  have hl : k < (bs s).length := by rw [bs_len]; exact h
  unfold hit
  rw [toList_bs, toList_bs, bs_mk, bs_extract, mk_size, List.length_singleton, Nat.add_sub_cancel_left, List.drop_eq_getElem_cons hl, List.take_succ_cons, List.take_zero]
  simp

/-- c stands first at i. -/
structure First (c : UInt8) (l : List UInt8) (i : Nat) : Prop where
  lt : i < l.length
  eq : l[i] = c
  no : ∀ j (h : j < i), l[j]'(by omega) ≠ c

theorem first_unique {c : UInt8} {l : List UInt8} {i j : Nat} (h : First c l i) (k : First c l j) : i = j := by
  rcases Nat.lt_trichotomy i j with hij | hij | hij
  · exact absurd h.eq (k.no i hij)
  · exact hij
  · exact absurd k.eq (h.no j hij)
theorem first_or (c : UInt8) : ∀ l : List UInt8, c ∉ l ∨ ∃ i, First c l i
  | [] => .inl (by simp)
  | x :: r => by
    by_cases hx : x = c
    · exact .inr ⟨0, by simp, by simpa using hx, fun j h => absurd h (by omega)⟩
    · rcases first_or c r with h | ⟨i, h⟩
      · exact .inl (by simp; exact ⟨fun e => hx e.symm, h⟩)
      · refine .inr ⟨i + 1, by have := h.lt; simp; omega, by simpa using h.eq, fun j hj => ?_⟩
        cases j with
        | zero => simpa using hx
        | succ j => simpa using h.no j (by omega)
theorem first_split {c : UInt8} {l : List UInt8} {i : Nat} (h : First c l i) : l = l.take i ++ c :: l.drop (i + 1) ∧ c ∉ l.take i := by
  refine ⟨?_, ?_⟩
  · have := List.take_append_drop i l
    rw [List.drop_eq_getElem_cons h.lt, h.eq] at this
    exact this.symm
  · intro hm
    obtain ⟨j, hj, e⟩ := List.mem_iff_getElem.1 hm
    rw [List.length_take] at hj
    rw [List.getElem_take] at e
    exact h.no j (by omega) e

theorem zzIndex_no (s : ByteArray) (c : UInt8) (w : World) (hs : s.size ≤ 4294967296) (h : c ∉ bs s) :
    Calls Tryz.prog 37 #[.string s, .string (mk [c])] w fun e w' => e = .returned (.int .i64 (-1)) ∧ w = w' := by
  refine (zzIndex_any s (mk [c]) w hs (by rw [mk_size]; simp)).mono ?_
  rintro e w' ⟨⟨k, rfl, hk⟩, rfl⟩
  rcases hk with ⟨rfl, _⟩ | ⟨i, rfl, hi, hh, _⟩
  · exact ⟨rfl, rfl⟩
  · rw [mk_size] at hi
    simp at hi
    rw [hit_one s c i (by omega)] at hh
    exact absurd (List.getElem_mem (l := bs s) (n := i) (by rw [bs_len]; omega)) (by rw [beq_iff_eq.1 hh]; exact h)
theorem zzIndex_yes (s : ByteArray) (c : UInt8) (i : Nat) (w : World) (hs : s.size ≤ 4294967296) (h : First c (bs s) i) :
    Calls Tryz.prog 37 #[.string s, .string (mk [c])] w fun e w' => e = .returned (.int .i64 i) ∧ w = w' := by
  have hlt := h.lt
  rw [bs_len] at hlt
  refine (zzIndex_any s (mk [c]) w hs (by rw [mk_size]; simp)).mono ?_
  rintro e w' ⟨⟨k, rfl, hk⟩, rfl⟩
  rcases hk with ⟨rfl, hn⟩ | ⟨j, rfl, hj, hh, hn⟩
  · have := hn i (by rw [mk_size]; simp; omega)
    rw [hit_one s c i hlt, h.eq] at this
    simp at this
  · rw [mk_size] at hj
    simp at hj
    have hj' : j < s.size := by omega
    have hF : First c (bs s) j := ⟨by rw [bs_len]; exact hj', by rw [hit_one s c j hj'] at hh; exact beq_iff_eq.1 hh, fun k hk => by
      have := hn k hk
      rw [hit_one s c k (by omega)] at this
      simpa using this⟩
    rw [first_unique h hF]
    exact ⟨rfl, rfl⟩

/-- zzCut at a mark of one byte. -/
theorem zzCut_no (s : ByteArray) (c : UInt8) (w : World) (hs : s.size ≤ 4294967296) (h : c ∉ bs s) :
    Calls Tryz.prog 38 #[.string s, .string (mk [c])] w fun e w' => e = .returned (.tuple #[.string s, .string (mk []), .bool false]) ∧ w = w' := by
  go_enter Tryz.func38, Tryz.ntmps38
  go_wp2_with (go_at_call 37; refine (zzIndex_no s c _ hs h).mono ?_; rintro e w' ⟨rfl, rfl⟩)
  go_ret3
  exact ⟨rfl, rfl⟩
theorem zzCut_yes (s : ByteArray) (c : UInt8) (i : Nat) (w : World) (hs : s.size ≤ 4294967296) (h : First c (bs s) i) :
    Calls Tryz.prog 38 #[.string s, .string (mk [c])] w fun e w' => e = .returned (.tuple #[.string (s.extract 0 i), .string (s.extract (i + 1) s.size), .bool true]) ∧ ∃ n, w' = w.drewN n := by
  have hlt := h.lt
  rw [bs_len] at hlt
  have H := Lib.hid h
  clear h
  have hz : (mk [c]).size = 1 := by simp [mk_size]
  go_enter Tryz.func38, Tryz.ntmps38
  go_wp2_with (go_at_call 37; refine (zzIndex_yes s c i _ hs H.out).mono ?_; rintro e w' ⟨rfl, rfl⟩)
  go_quiet (fail)
  go_wp2
  go_ret3
  exact ⟨rfl, _, rfl⟩

end Go.Proofs.YtoofphhfealcaaaGreatDoor

namespace Go.Proofs.YtoofphhfealcaaaGreatDoor
open Go.RowKit

/-- The pieces of a text between the marks c. -/
def pieces (c : UInt8) (s : ByteArray) : List ByteArray := (cutBy (· == c) (bs s)).map mk
theorem pieces_no {c : UInt8} {s : ByteArray} (h : c ∉ bs s) : pieces c s = [s] := by
  unfold pieces
  rw [cutBy_none _ _ (fun x hx => by
    have : x ≠ c := fun e => h (by rw [← e]; exact hx)
    simpa using this)]
  simp [mk_bs]
theorem pieces_hit {c : UInt8} {s : ByteArray} {i : Nat} (h : First c (bs s) i) : pieces c s = s.extract 0 i :: pieces c (s.extract (i + 1) s.size) := by
  obtain ⟨h1, h2⟩ := first_split h
  unfold pieces
  rw [h1, cutBy_hit _ _ _ _ (fun x hx => by
    have : x ≠ c := fun e => h2 (by rw [← e]; exact hx)
    simpa using this) (by simp), List.map_cons, extract_mk, bs_extract]
  have hl := bs_len s
  rw [List.drop_zero, Nat.sub_zero, List.take_of_length_le (i := s.size - (i + 1)) (by simp; omega)]
theorem pieces_len (c : UInt8) (s : ByteArray) : (pieces c s).length ≤ s.size + 1 := by
  have := cutBy_len (· == c) (bs s)
  simp [pieces, bs_len] at this ⊢
  omega

theorem info9 : (Tryz.prog.info? 9).map (fun i => (i.zero, i.size, i.bytes)) = some (some (.string (mk [])), 1, 16) := by kernel_rfl
theorem und26 : Tryz.prog.underlying 26 = some (.slice 9) := by kernel_rfl
section
variable {ops : Array Oper} {rest : List Oper} {o : Oper} {a : Act} {Q : Exit → Act → World → Prop}
/-- append of one string to a []string of the call's own. -/
theorem app_str {w0 W : World} (base : Nat) (hgd : o.guard = none) (s x : Operand)
    (ho : o.op = .call { callee := .builtin .append, args := #[s, x], argTypes := #[26, 26] })
    (v : Value) (l : List ByteArray) (y : ByteArray) (HO : Strs W base v l) (hs : a.eval s = v) (hx : a.eval x = .slice (some ⟨W.heap.size, 0, none⟩) 1 1)
    (HB : Below base w0 W) (hbase : base ≤ W.heap.size) (hl : l.length ≤ 8796093022207)
    (h : ∀ v1 w1, Strs w1 base v1 (l ++ [y]) → Below base w0 w1 → W.grownBy w1 v.ownBlock → wpList Tryz.prog ops Q rest (a.put o.dst v1) w1) :
    wpList Tryz.prog ops Q (o :: rest) a (W.alloc (.cells #[.string y] 9)) :=
  app1 base hgd s x 26 9 (.string (mk [])) 1 16 ho und26 info9 rfl (by omega) (by omega) v l.length (l.map Value.string) #[.string y] hs hx rfl (by simp [Value.oneCell']) HO HB hbase (by omega)
    fun v1 w1 hown hB hg => h v1 w1 (by simpa [Strs] using hown) hB hg
end

set_option maxHeartbeats 2000000 in
theorem zzSplit_any (s : ByteArray) (c : UInt8) (w : World) (hs : s.size ≤ 4294967296) :
    Calls Tryz.prog 20 #[.string s, .string (mk [c])] w fun e w' => ∃ v, e = .returned v ∧ Strs w' w.heap.size v (pieces c s) ∧ Below w.heap.size w w' := by
  have hz : (mk [c]).size = 1 := by simp [mk_size]
  go_enter Tryz.func20, Tryz.ntmps20
  go_wp2
  go_loopw [0, 5] (fun r v wr => ∃ (t : ByteArray) (d : List ByteArray), r = .string t ∧ t.size ≤ s.size ∧ d.length + t.size ≤ s.size ∧ Hid (pieces c s = d ++ pieces c t) ∧ Strs wr w.heap.size v d ∧ Below w.heap.size w wr)
    (fun r _ _ => match r with | .string t => t.size | _ => 0)
  case atStart => exact ⟨s, [], rfl, Nat.le_refl _, by simp, rfl, strs_nil _ _, Below.refl _ _⟩
  case round =>
    obtain ⟨t, d, rfl, ht, hd, HP, hown, hbel⟩ := hrel
    have hsz := hbel.size
    rcases first_or c (bs t) with hn | ⟨i, hi⟩
    · have HP1 : Hid (pieces c s = d ++ [t]) := by have := HP.out; rw [pieces_no hn] at this; exact this
      have HN := Lib.hid hn
      clear hn HP
      go_wp2_with (first
        | (go_at_call 37; refine (zzIndex_no t c _ (by omega) HN.out).mono ?_; rintro e w' ⟨rfl, rfl⟩)
        | (at_builtin; (refine app_str w.heap.size rfl _ _ rfl _ d t hown rfl rfl hbel hsz (by omega) ?_); intro v1 w1 hown1 hbel1 _))
      go_ret
      exact ⟨_, rfl, by rw [HP1.out]; exact hown1, hbel1⟩
    · have hlt := hi.lt
      rw [bs_len] at hlt
      have HP1 : Hid (pieces c s = (d ++ [t.extract 0 i]) ++ pieces c (t.extract (i + 1) t.size)) := by have := HP.out; rw [pieces_hit hi] at this; rw [List.append_assoc]; exact this
      have HI := Lib.hid hi
      clear hi HP
      go_wp2_with (first
        | (go_at_call 37; refine (zzIndex_yes t c i _ (by omega) HI.out).mono ?_; rintro e w' ⟨rfl, rfl⟩)
        | (at_builtin; go_loud (refine app_str w.heap.size rfl _ _ rfl _ d (t.extract 0 i) hown rfl rfl hbel hsz (by omega) ?_); intro v1 w1 hown1 hbel1 _))
      go_roundw
      case rel => exact ⟨_, _, rfl, by simp; omega, by simp; omega, HP1, hown1, hbel1⟩
      case measure => simp; omega

end Go.Proofs.YtoofphhfealcaaaGreatDoor
