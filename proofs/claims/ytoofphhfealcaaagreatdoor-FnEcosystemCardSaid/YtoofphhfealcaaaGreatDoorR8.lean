/-
  WALKS: slices.Grow of words; the stack of temporaries: save, restore, free, nat.
-/
import Derived.Test.YtoofphhfealcaaaGreatDoorR7
import Derived.Lib.AppendZerosOnto
import Derived.Lib.SliceRun
import Derived.Defers
namespace Go.Proofs.YtoofphhfealcaaaGreatDoor
open Go.RowKit

theorem und3 : Tryz.prog.underlying 3 = some (.int .i64) := by kernel_rfl
set_option maxRecDepth 100000 in
set_option maxHeartbeats 4000000 in
theorem grow_room (A : Option Addr) (l c n : Nat) (w : World) (hlc : l ≤ c) (hc : c ≤ 9223372036854775807) (hroom : l + n ≤ c) :
    Calls Tryz.prog 282 #[.slice A l c, .int .i64 n] w fun e w' => e = .returned (.slice A l c) ∧ w = w' := by
  have h1 : ¬ ((n : Int) < 0) := by omega
  have h2 : wrap64 ((c : Int) - (l : Int)) = (c : Int) - (l : Int) := by unfold wrap64; omega
  have h3 : wrap64 ((n : Int) - ((c : Int) - (l : Int))) = (n : Int) - ((c : Int) - (l : Int)) := by unfold wrap64; omega
  have h4 : ¬ ((n : Int) - ((c : Int) - (l : Int)) > 0) := by omega
  go_enter Tryz.func282, Tryz.ntmps282
  go_wp2
  go_ret
  exact ⟨rfl, rfl⟩
set_option maxRecDepth 100000 in
set_option maxHeartbeats 4000000 in
theorem grow_new (A : Option Addr) (l c n : Nat) (cs : List Value) (w : World) (hlc : l ≤ c) (hroom : c < l + n) (hbig : l + n ≤ 1048576)
    (hcl : cs.length = c) (hnil : A = none → c = 0) (hcs : ∀ a, A = some a → ∀ j v, cs[j]? = some v → w.cell? (a.add j) = some v) :
    Calls Tryz.prog 282 #[.slice A l c, .int .i64 n] w fun e w' => ∃ G, l + n ≤ G ∧ G ≤ 9223372036854775807 ∧ e = .returned (.slice (some ⟨w.heap.size, 0, none⟩) l G) ∧ ∃ zs : List Value, (cs ++ zs).length = G ∧ w.drew.alloc (.cells (cs ++ zs).toArray 156) = w' := by
  have h1 : ¬ ((n : Int) < 0) := by omega
  have h2 : wrap64 ((c : Int) - (l : Int)) = (c : Int) - (l : Int) := by unfold wrap64; omega
  have h3 : wrap64 ((n : Int) - ((c : Int) - (l : Int))) = (n : Int) - ((c : Int) - (l : Int)) := by unfold wrap64; omega
  have h4 : (n : Int) - ((c : Int) - (l : Int)) > 0 := by omega
  obtain ⟨i0, hi, hz0, hz1, hz2⟩ := info_parts info156
  have hck : c + (l + n - c) = l + n := by omega
  have hold : (Builtin.firstCells i0.size c (.slice A c c)).run Tryz.prog w.drew = .ok cs.toArray w.drew := by
    rw [hz1]
    cases A with
    | none =>
      have h0 := hnil rfl
      subst h0
      have hc0 : cs = [] := List.length_eq_zero_iff.1 hcl
      rw [hc0]
      exact run_firstCells_none w.drew 1 0 0 0
    | some a => exact run_firstCells_some w.drew 1 c a c c cs (by omega) (fun j v hj => hcs a rfl j v hj)
  have hrz : ∀ ty, (Builtin.append_ #[109, 3] ty #[.slice A c c, .int .i64 ((n : Int) - ((c : Int) - (l : Int)))]).run Tryz.prog w =
      .ok (.slice (some ⟨w.heap.size, 0, none⟩) (l + n) (grownCap w (l + n) c 156)) (w.drew.alloc (.cells (cs.toArray ++ Builtin.zeroCells (Value.int .u64 0).cells (l + n - c) ++ Builtin.zeroCells (Value.int .u64 0).cells (grownCap w (l + n) c 156 - (l + n))) 156)) := fun ty => by
    have h := Lib.run_append_grow_zeros w 109 3 ty 156 i0 (.int .u64 0) .i64 .i64 und109 und3 hi hz0 A c c cs hold (l + n - c) (by omega) (by omega) (by omega) (by omega)
      (by rw [hz2]; omega)
      (by rw [hck, hz2]; exact growslice_fits hroom (by omega))
    rw [hck] at h
    rw [show (n : Int) - ((c : Int) - (l : Int)) = ((l + n - c : Nat) : Int) by omega]
    exact h
  have hGn : l + n ≤ grownCap w (l + n) c 156 := grownCap_ge w _ _ _
  obtain ⟨G, hG⟩ : ∃ G, G = grownCap w (l + n) c 156 := ⟨_, rfl⟩
  rw [← hG] at hrz hGn
  have hG63 : G ≤ 9223372036854775807 := by
    have := grownCap_le_maxLen w (l + n) c 156 (by unfold maxLen; omega)
    rw [← hG] at this
    unfold maxLen at this
    omega
  have hcells : ∀ k, (Builtin.zeroCells (Value.int .u64 0).cells k).size = k := fun k => by simp [Builtin.zeroCells, Value.cells]
  have hfin : (cs ++ ((Builtin.zeroCells (Value.int .u64 0).cells (l + n - c)).toList ++ (Builtin.zeroCells (Value.int .u64 0).cells (G - (l + n))).toList)).length = G := by
    simp only [List.length_append, Array.length_toList, hcells, hcl]
    omega
  have harr : cs.toArray ++ Builtin.zeroCells (Value.int .u64 0).cells (l + n - c) ++ Builtin.zeroCells (Value.int .u64 0).cells (G - (l + n)) = (cs ++ ((Builtin.zeroCells (Value.int .u64 0).cells (l + n - c)).toList ++ (Builtin.zeroCells (Value.int .u64 0).cells (G - (l + n))).toList)).toArray := by
    apply Array.ext'
    simp
  rw [harr] at hrz
  generalize (Builtin.zeroCells (Value.int .u64 0).cells (l + n - c)).toList ++ (Builtin.zeroCells (Value.int .u64 0).cells (G - (l + n))).toList = zs at *
  have HFIN := Lib.hid hfin
  clear hold hck hG hcs hcl hcells harr hfin hi hz0 hz1 hz2
  go_enter Tryz.func282, Tryz.ntmps282
  cases A with
  | none =>
    have h0 := hnil rfl
    subst h0
    obtain rfl : l = 0 := by omega
    go_wp2_with (at_builtin; refine Lib.wpList_append_run _ rfl _ _ _ _ rfl _ _ rfl rfl _ _ (hrz _) ?_)
    all_goals (go_ret; exact ⟨G, by omega, hG63, rfl, zs, by have := HFIN.out; simpa using this, rfl⟩)
  | some a =>
    obtain ⟨ab, ao, asp⟩ := a
    go_wp2_with (at_builtin; refine Lib.wpList_append_run _ rfl _ _ _ _ rfl _ _ rfl rfl _ _ (hrz _) ?_)
    all_goals (go_ret; exact ⟨G, by omega, hG63, rfl, zs, by have := HFIN.out; simpa using this, rfl⟩)

/-- The stack of temporaries: its blocks are l, of which L words are in use. -/
inductive StkAt (w : World) (sb : Nat) : List Nat → Nat → Prop
  | none (h : w.heap[sb]? = some (.cells #[.pointer none] 273 (0, 0))) : StkAt w sb [] 0
  | bare (si : Nat) (h : w.heap[sb]? = some (.cells #[.pointer (some ⟨si, 0, none⟩)] 273 (0, 0))) (h2 : w.heap[si]? = some (.cells #[.slice none 0 0] 300 (0, 0))) (hd : sb ≠ si) : StkAt w sb [si] 0
  | row (si b L c : Nat) (cur : Array Value) (h : w.heap[sb]? = some (.cells #[.pointer (some ⟨si, 0, none⟩)] 273 (0, 0))) (h2 : w.heap[si]? = some (.cells #[.slice (some ⟨b, 0, none⟩) L c] 300 (0, 0))) (h3 : w.heap[b]? = some (.cells cur 156 (0, 0)))
      (hc : cur.size = c) (hL : L ≤ c) (hc63 : c ≤ 9223372036854775807) (hd : sb ≠ si) (hd2 : sb ≠ b) (hd3 : si ≠ b) : StkAt w sb [si, b] L
theorem stk_lt {w : World} {sb L : Nat} {l : List Nat} (h : StkAt w sb l L) : ∀ x ∈ sb :: l, x < w.heap.size := by
  have g : ∀ {k : Nat} {o : Obj}, w.heap[k]? = some o → k < w.heap.size := fun h => (Array.getElem?_eq_some_iff.1 h).1
  intro x hx
  cases h with
  | none h => simp at hx; subst hx; exact g h
  | bare si h h2 hd =>
    simp at hx
    rcases hx with rfl | rfl
    · exact g h
    · exact g h2
  | row si b L c cur h h2 h3 =>
    simp at hx
    rcases hx with rfl | rfl | rfl
    · exact g h
    · exact g h2
    · exact g h3
theorem stk_kp {w w' : World} {sb L : Nat} {l m : List Nat} (h : StkAt w sb l L) (hk : Kp m w w') (hn : ∀ x ∈ sb :: l, x ∉ m) : StkAt w' sb l L := by
  have hlt := stk_lt h
  have g : ∀ x ∈ sb :: l, w'.heap[x]? = w.heap[x]? := fun x hx => hk.block x (hlt x hx) (hn x hx)
  cases h with
  | none h => exact .none (by rw [g sb (by simp)]; exact h)
  | bare si h h2 hd => exact .bare si (by rw [g sb (by simp)]; exact h) (by rw [g si (by simp)]; exact h2) hd
  | row si b L c cur h h2 h3 hc hL h63 hd hd2 hd3 => exact .row si b L c cur (by rw [g sb (by simp)]; exact h) (by rw [g si (by simp)]; exact h2) (by rw [g b (by simp)]; exact h3) hc hL h63 hd hd2 hd3
set_option maxHeartbeats 1000000 in
theorem save_any (sb L : Nat) (l : List Nat) (w : World) (h : StkAt w sb l L) : Calls Tryz.prog 230 #[.pointer (some ⟨sb, 0, none⟩)] w fun e w' => e = .returned (.int .i64 L) ∧ w = w' := by
  cases h with
  | none h =>
    have hc : w.cell? ⟨sb, 0, none⟩ = some (.pointer none) := by rw [cell_of_row _ _ _ _ _ _ h]; rfl
    clear h
    go_enter Tryz.func230, Tryz.ntmps230
    go_wp2
    go_ret
    exact ⟨rfl, rfl⟩
  | bare si h h2 hd =>
    have hc : w.cell? ⟨sb, 0, none⟩ = some (.pointer (some ⟨si, 0, none⟩)) := by rw [cell_of_row _ _ _ _ _ _ h]; rfl
    have hc2 : w.cell? ⟨si, 0, none⟩ = some (.slice none 0 0) := by rw [cell_of_row _ _ _ _ _ _ h2]; rfl
    clear h h2
    go_enter Tryz.func230, Tryz.ntmps230
    go_wp2_with go_in
    go_ret
    exact ⟨rfl, rfl⟩
  | row si b L c cur h h2 h3 hcc hL h63 hd hd2 hd3 =>
    have hc : w.cell? ⟨sb, 0, none⟩ = some (.pointer (some ⟨si, 0, none⟩)) := by rw [cell_of_row _ _ _ _ _ _ h]; rfl
    have hc2 : w.cell? ⟨si, 0, none⟩ = some (.slice (some ⟨b, 0, none⟩) L c) := by rw [cell_of_row _ _ _ _ _ _ h2]; rfl
    clear h h2 h3
    go_enter Tryz.func230, Tryz.ntmps230
    go_wp2_with go_in
    go_ret
    exact ⟨rfl, rfl⟩
/-- What stands behind a restore: n words in use. -/
def RestPost (sb : Nat) (l : List Nat) (n : Nat) (w w' : World) : Prop := StkAt w' sb l n ∧ Kp (sb :: l) w w'
set_option maxHeartbeats 1000000 in
theorem inner_restore (si n L c : Nat) (A : Option Addr) (w : World) (hc2 : w.cell? ⟨si, 0, none⟩ = some (.slice A L c)) (hf : w.frozen? ⟨si, 0, none⟩ = false) (hn : n ≤ L) (hL : L ≤ c) (hc : c ≤ 9223372036854775807) (hA : A = none → c = 0) :
    Calls Tryz.prog 264 #[.pointer (some ⟨si, 0, none⟩), .int .i64 n] w fun e w' => e = .returned (.tuple #[]) ∧ w.setCell ⟨si, 0, none⟩ (.slice A n c) = w' := by
  cases A with
  | none =>
    have := hA rfl
    subst this
    obtain rfl : L = 0 := by omega
    obtain rfl : n = 0 := by omega
    go_enter Tryz.func264, Tryz.ntmps264
    go_wp2
    go_end0
    exact ⟨rfl, rfl⟩
  | some a =>
    obtain ⟨ab, ao, asp⟩ := a
    go_enter Tryz.func264, Tryz.ntmps264
    go_wp2
    go_end0
    exact ⟨rfl, rfl⟩
set_option maxHeartbeats 1000000 in
theorem restore_d (sb L n : Nat) (l : List Nat) (u : FrameMode) (w : World) (h : StkAt w sb l L) (hn : n ≤ L) : CallsD Tryz.prog 229 #[.pointer (some ⟨sb, 0, none⟩), .int .i64 n] u w fun e u' w' => u' = u ∧ (e = .returned (.tuple #[]) ∧ RestPost sb l n w w') := by
  cases h with
  | none h =>
    obtain rfl : n = 0 := by omega
    have hc : w.cell? ⟨sb, 0, none⟩ = some (.pointer none) := by rw [cell_of_row _ _ _ _ _ _ h]; rfl
    have H := Lib.hid h
    clear h
    go_enter_d Tryz.func229, Tryz.ntmps229
    go_wp2
    refine bodyPost_ret (by simp [results, go_sem]; try rfl) rfl ?_
    exact ⟨rfl, .none H.out, Kp.refl _ _⟩
  | bare si h h2 hd =>
    obtain rfl : n = 0 := by omega
    have hc : w.cell? ⟨sb, 0, none⟩ = some (.pointer (some ⟨si, 0, none⟩)) := by rw [cell_of_row _ _ _ _ _ _ h]; rfl
    have HC2 := Lib.hid (show w.cell? ⟨si, 0, none⟩ = some (.slice none 0 0) by rw [cell_of_row _ _ _ _ _ _ h2]; rfl)
    have HF := Lib.hid (show w.frozen? ⟨si, 0, none⟩ = false from frozen_of_row _ _ _ _ _ h2)
    have H := Lib.hid h; have H2 := Lib.hid h2
    clear h h2
    go_enter_d Tryz.func229, Tryz.ntmps229
    go_wp2_with (go_at_call 264; refine (inner_restore si 0 0 0 none _ HC2.out HF.out (by omega) (by omega) (by omega) (fun _ => rfl)).mono ?_; rintro e w' ⟨rfl, rfl⟩)
    go_end0
    exact ⟨rfl, .bare si (by rw [Below.heap_setCell _ _ _ _ (by simpa using hd)]; exact H.out) (heap_setCell_at _ _ _ _ _ _ _ H2.out) hd, (Kp.refl _ _).setCell (by simp) _⟩
  | row si b L c cur h h2 h3 hcc hL h63 hd hd2 hd3 =>
    have hc : w.cell? ⟨sb, 0, none⟩ = some (.pointer (some ⟨si, 0, none⟩)) := by rw [cell_of_row _ _ _ _ _ _ h]; rfl
    have HC2 := Lib.hid (show w.cell? ⟨si, 0, none⟩ = some (.slice (some ⟨b, 0, none⟩) L c) by rw [cell_of_row _ _ _ _ _ _ h2]; rfl)
    have HF := Lib.hid (show w.frozen? ⟨si, 0, none⟩ = false from frozen_of_row _ _ _ _ _ h2)
    have H := Lib.hid h; have H2 := Lib.hid h2; have H3 := Lib.hid h3
    clear h h2 h3
    go_enter_d Tryz.func229, Tryz.ntmps229
    go_wp2_with (go_at_call 264; refine (inner_restore si n L c _ _ HC2.out HF.out hn hL h63 (fun h => by cases h)).mono ?_; rintro e w' ⟨rfl, rfl⟩)
    go_end0
    exact ⟨rfl, .row si b n c cur (by rw [Below.heap_setCell _ _ _ _ (by simpa using hd)]; exact H.out) (heap_setCell_at _ _ _ _ _ _ _ H2.out) (by rw [Below.heap_setCell _ _ _ _ (by simpa using (Ne.symm hd3))]; exact H3.out) hcc (by omega) h63 hd hd2 hd3, (Kp.refl _ _).setCell (by simp) _⟩
end Go.Proofs.YtoofphhfealcaaaGreatDoor
