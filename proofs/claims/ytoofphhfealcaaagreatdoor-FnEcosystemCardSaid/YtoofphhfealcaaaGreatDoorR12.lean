/-
  WALKS: make of nat from whatever row; alias of two rows; copy of words.
-/
import Derived.Test.YtoofphhfealcaaaGreatDoorR11
import Derived.BigQuiet
import Derived.LaidEql
namespace Go.Proofs.YtoofphhfealcaaaGreatDoor
open Go.RowKit

/-- A row of words. -/
def RowC (w : World) (b c : Nat) : Prop := ∃ cur, w.heap[b]? = some (.cells cur 156 (0, 0)) ∧ cur.size = c
theorem rowC_lt {w : World} {b c : Nat} (h : RowC w b c) : b < w.heap.size := by
  obtain ⟨cur, h1, _⟩ := h
  exact (Array.getElem?_eq_some_iff.1 h1).1
theorem rowC_of {w w' : World} {b c : Nat} (h : RowC w b c) (he : w'.heap[b]? = w.heap[b]?) : RowC w' b c := by
  obtain ⟨cur, h1, h2⟩ := h
  exact ⟨cur, by rw [he]; exact h1, h2⟩
theorem rowC_kp {w w' : World} {l : List Nat} {b c : Nat} (h : RowC w b c) (hk : Kp l w w') (hn : b ∉ l) : RowC w' b c := rowC_of h (hk.block b (rowC_lt h) hn)
theorem rowC_seg {w w' : World} {b c o : Nat} {l : List Int} (h : RowC w b c) (hs : Seg w w' b o l) : RowC w' b c := by
  obtain ⟨cur, h1, h2⟩ := h
  obtain ⟨cur', h3, h4⟩ := hs.row cur 156 h1
  exact ⟨cur', h3, by omega⟩
theorem rowC_room {w : World} {b c o n : Nat} (h : RowC w b c) (hn : o + n ≤ c) : Room w b o n := fun j hj => by
  obtain ⟨cur, h1, h2⟩ := h
  exact ⟨⟨cur[o + j], by rw [cell_of_row _ _ _ _ _ _ h1]; simp⟩, frozen_of_row _ _ _ _ _ h1⟩
theorem rowC_nat {w : World} {b c : Nat} {xs : List Int} (h : NatB w b c xs) : RowC w b c := h.blk
theorem natB_row {w : World} {b c : Nat} {xs : List Int} (h : RowC w b c) (hr : Reads w b 0 xs) (hf : xs.length ≤ c) : NatB w b c xs := ⟨h, hr, hf⟩
/-- A slice that make may use again: none, or a row. -/
def ZOK (w : World) (z : Value) (rl : List Nat) : Prop := (z = .slice none 0 0 ∧ rl = []) ∨ ∃ rb len rc, z = .slice (some ⟨rb, 0, none⟩) len rc ∧ rl = [rb] ∧ RowC w rb rc ∧ rc ≤ 1048576
/-- What make leaves: a row for n words. -/
structure MkPost (w w' : World) (rl : List Nat) (n ub uc : Nat) : Prop where
  row : RowC w' ub uc
  fit : n ≤ uc
  big : uc ≤ 1048576
  below : Below w.heap.size w w'
  new : ub ∈ rl ∨ ub = w.heap.size
theorem make_u (z : Value) (rl : List Nat) (n : Nat) (w : World) (hz : ZOK w z rl) (h1 : 2 ≤ n) (hn : n ≤ 100000) :
    Calls Tryz.prog 171 #[z, .int .i64 n] w fun e w' => ∃ ub uc, e = .returned (.slice (some ⟨ub, 0, none⟩) n uc) ∧ MkPost w w' rl n ub uc := by
  rcases hz with ⟨rfl, rfl⟩ | ⟨rb, len, rc, rfl, rfl, hr, hc⟩
  · refine (make_new none 0 0 n w (by omega) h1 (by omega)).mono ?_
    rintro e w' ⟨rfl, rfl⟩
    exact ⟨_, _, rfl, ⟨_, heap_alloc_new w _, size_madeCells _ _⟩, by omega, by omega, (Below.refl _ _).alloc (Nat.le_refl _) _, .inr rfl⟩
  · by_cases hf : n ≤ rc
    · refine (make_fit rb 0 len rc n w hf (by omega)).mono ?_
      rintro e w' ⟨rfl, rfl⟩
      exact ⟨_, _, rfl, hr, hf, hc, Below.refl _ _, .inl (by simp)⟩
    · refine (make_new (some ⟨rb, 0, none⟩) len rc n w (by omega) h1 (by omega)).mono ?_
      rintro e w' ⟨rfl, rfl⟩
      exact ⟨_, _, rfl, ⟨_, heap_alloc_new w _, size_madeCells _ _⟩, by omega, by omega, (Below.refl _ _).alloc (Nat.le_refl _) _, .inr rfl⟩
theorem copy_seg (b o n dc a sc : Nat) (xs : List Int) (w : World) (hl : xs.length = n) (hR : Reads w a 0 xs) (hZ : Room w b o n) :
    ∃ w2, (∀ ty, (Builtin.copy_ #[110, 110] ty #[.slice (some ⟨b, o, none⟩) n dc, .slice (some ⟨a, 0, none⟩) n sc]).run Tryz.prog w = .ok (goInt n) w2) ∧ Seg w w2 b o xs := by
  subst hl
  refine ⟨w.setCells b o (wv xs), fun ty => ?_, seg_of_setCells w b o xs hZ⟩
  have h := run_copy_cells (P := Tryz.prog) w 110 110 ty 156 b o xs.length dc ⟨a, 0, none⟩ xs.length sc (wv xs) und110 size156 (by rw [wv_len]; simp) (fun j v hj => by
      have hlt : j < xs.length := by have := (List.getElem?_eq_some_iff.1 hj).1; rwa [wv_len] at this
      have := hR j hlt
      rw [Nat.zero_add] at this
      rw [Addr.add_lit, Nat.zero_add, this, ← hj]
      simp [wv, hlt]) (fun j hj => by
      rw [wv_len] at hj
      obtain ⟨⟨u, hu⟩, _⟩ := hZ j hj
      rw [hu]; rfl) (fun j hj => by
      rw [wv_len] at hj
      exact (hZ j hj).2) (by intro v hv; simp only [wv, List.mem_map] at hv; obtain ⟨x, _, rfl⟩ := hv; rfl)
  rw [wv_len] at h
  exact h
set_option maxRecDepth 100000 in
set_option maxHeartbeats 4000000 in
theorem alias_ne (a ac b bc n m : Nat) (w : World) (h1 : 0 < ac) (h2 : 0 < bc) (hb1 : ac ≤ 1048576) (hb2 : bc ≤ 1048576) (hne : a ≠ b) (ra : RowC w a ac) (rb : RowC w b bc) :
    Calls Tryz.prog 174 #[.slice (some ⟨a, 0, none⟩) n ac, .slice (some ⟨b, 0, none⟩) m bc] w fun e w' => e = .returned (.bool false) ∧ ∃ q, w' = w.drewN q := by
  have d1 : decide ((0 : Int) < (ac : Int)) = true := by simp; omega
  have d2 : decide ((0 : Int) < (bc : Int)) = true := by simp; omega
  obtain ⟨ka, a1, a2⟩ : ∃ ka : Nat, IntKind.i64.wrap ((ac : Int) - 1) = (ka : Int) ∧ ka < ac := ⟨ac - 1, by rw [IntKind.wrap_i64]; omega, by omega⟩
  obtain ⟨kb, b1, b2⟩ : ∃ kb : Nat, IntKind.i64.wrap ((bc : Int) - 1) = (kb : Int) ∧ kb < bc := ⟨bc - 1, by rw [IntKind.wrap_i64]; omega, by omega⟩
  have heq : ∀ q, (binOp .eql 287 (.pointer (some ⟨a, ka, none⟩)) (.pointer (some ⟨b, kb, none⟩))).run Tryz.prog (w.drewN q) = .ok (.bool false) (w.drewN q) := fun q => by
    have hu : Tryz.prog.underlying 287 = some (.pointer 156) := by kernel_rfl
    obtain ⟨c1, r1, _⟩ := ra
    obtain ⟨c2, r2, _⟩ := rb
    have hs := run_sameAddr_other (P := Tryz.prog) (w := w.drewN q) (a := ⟨a, ka, none⟩) (b := ⟨b, kb, none⟩) (by intro e; exact hne (congrArg Addr.block e)) (ca := c1) (cb := c2) (ta := 156) (tb := 156) r1 r2
    have h : ∀ d : Nat, (Op.equalIn (d + 1) 287 (.pointer (some ⟨a, ka, none⟩)) (.pointer (some ⟨b, kb, none⟩))).run Tryz.prog (w.drewN q) = .ok false (w.drewN q) := fun d => by simp [Op.equalIn, run_underlying hu, hs]
    simp only [binOp]
    simp [Op.equal, Op.maxDepth, h 9999]
  clear ra rb
  go_enter Tryz.func174, Tryz.ntmps174
  go_upto_region 1 with fail
  go_quiet (fail)
  go_wp2_with fail
  go_ret
  exact ⟨rfl, _, rfl⟩
end Go.Proofs.YtoofphhfealcaaaGreatDoor
