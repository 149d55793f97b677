/-
  WALKS: Ecosystem of the thin package.
  WALKS: the names of the ecosystems by their sorts.
  WALKS: the law FnEcosystems.
  WALKS: what the parsers answer at the text "1.2.3".
-/
import Derived.Test.YtoofphhfealcaaaGreatDoorM1
import Derived.Test.YtoofphhfealcaaaGreatDoorK7
namespace Go.Proofs.YtoofphhfealcaaaGreatDoor
open Go.RowKit

theorem ecoTab_le : ∀ p ∈ ecoTab, p.2 ≤ 12 := by decide
theorem kindB_le (l : List UInt8) : kindB l ≤ 12 := by
  unfold kindB
  split
  · rename_i p h
    exact ecoTab_le p (List.mem_of_find?_eq_some h)
  · omega
theorem ne_err_nil (a : Addr) (w : World) : (binOp .neq 35 (.iface 364 (.pointer (some a))) .nilIface).run Tryz.prog w = .ok (.bool true) w := by
  have hi : Tryz.prog.underlying 35 = some (.interface #[("Error", 159)]) := by kernel_rfl
  have h : ∀ d : Nat, (Op.equalIn (d + 1) 35 (.iface 364 (.pointer (some a))) .nilIface).run Tryz.prog w = .ok false w := fun d => by simp [Op.equalIn, run_underlying hi]
  simp only [binOp]
  simp [Op.equal, Op.maxDepth, h 9999]
theorem ne_nil_nil (w : World) : (binOp .neq 35 .nilIface .nilIface).run Tryz.prog w = .ok (.bool false) w := by
  have hi : Tryz.prog.underlying 35 = some (.interface #[("Error", 159)]) := by kernel_rfl
  have h : ∀ d : Nat, (Op.equalIn (d + 1) 35 .nilIface .nilIface).run Tryz.prog w = .ok true w := fun d => by simp [Op.equalIn, run_underlying hi]
  simp only [binOp]
  simp [Op.equal, Op.maxDepth, h 9999]
/-- A struct's type: no interface. -/
def isIf : TypeDesc → Bool
  | .interface _ => true
  | _ => false
theorem assert_hit (T : TypeId) (v : Value) (w : World) (hu : (Tryz.prog.underlying T).map isIf = some false) : (Instr.typeAssert (.iface T v) 33 T true).run Tryz.prog w = .ok (.tuple #[v, .bool true]) w := by
  obtain ⟨d, hd, h2⟩ := Option.map_eq_some_iff.1 hu
  cases d <;> first | (simp [isIf] at h2; done) | simp [Instr.typeAssert, run_underlying hd]
theorem assert_miss (t T : TypeId) (hne : t ≠ T) (hu : (Tryz.prog.underlying T).map isIf = some false) (hz : (Tryz.prog.info? T).map (fun i => i.zero.isSome) = some true) : ∃ z, ∀ (v : Value) (w : World), (Instr.typeAssert (.iface t v) 33 T true).run Tryz.prog w = .ok (.tuple #[z, .bool false]) w := by
  obtain ⟨d, hd, h2⟩ := Option.map_eq_some_iff.1 hu
  obtain ⟨i, hi, h3⟩ := Option.map_eq_some_iff.1 hz
  obtain ⟨z, hz⟩ := Option.isSome_iff_exists.1 h3
  refine ⟨z, fun v w => ?_⟩
  cases d <;> first | (simp [isIf] at h2; done) | simp [Instr.typeAssert, run_underlying hd, hne, zeroValue, typeInfo, hi, hz]
/-- What Ecosystem answers. -/
def EcoPost (w : World) (k : Nat) (ok : Bool) (e : Ending) (w' : World) : Prop := e = .returned (.tuple #[.int .i64 (if ok then k else 0 : Nat), .bool ok]) ∧ Below w.heap.size w w'
set_option maxRecDepth 100000 in
set_option maxHeartbeats 8000000 in
theorem eco_any (s name : ByteArray) (w : World) (a ae ai au : Addr) (er : Nat → Value) (hG : Gt w a ae ai au) (hP : POK s a ae ai au er (kindB (bareL (bs name)))) (hs : name.size ≤ 4294967295) (ok : Nat → Bool) (hok : ∀ k, er k = if ok k then .nilIface else .iface 364 (.pointer (some ai))) :
    Calls Tryz.prog 7 #[.string name, .string s] w (EcoPost w (kindB (bareL (bs name))) (decide (0 < kindB (bareL (bs name))) && ok (kindB (bareL (bs name))))) := by
  have HG := Lib.hid hG
  have HP := Lib.hid hP
  have hle := kindB_le (bareL (bs name))
  have HC : Hid (Calls Tryz.prog 14 #[.string s, .string name] w (ParsePost w au er (kindB (bareL (bs name))))) := parse_any s name w a ae ai au er hG hP hs
  generalize kindB (bareL (bs name)) = k at HC hle
  have h1 := ne_err_nil ai
  have h2 := ne_err_nil au
  have h3 := ne_nil_nil
  clear hG hP
  go_enter Tryz.func7, Tryz.ntmps7
  go_upto_region 2 with (go_at_call 14; refine HC.out.mono ?_; rintro e w1 ⟨v, r, rfl, hvr, hB⟩; have HB := Lib.hid hB; have HVR := Lib.hid hvr; clear hB hvr)
  rcases HVR.out with ⟨rfl, rfl, rfl⟩ | ⟨h0, cs, rfl, rfl⟩
  · go_wp2_with fail
    go_ret2
    exact ⟨rfl, HB.out⟩
  · have hr := hok k
    cases hokk : ok k with
    | false =>
      rw [hokk] at hr
      simp only [Bool.false_eq_true, if_false] at hr
      rw [hr]
      clear hr
      go_wp2_with fail
      go_ret2
      exact ⟨by simp, HB.out⟩
    | true =>
      rw [hokk] at hr
      simp only [if_true] at hr
      rw [hr]
      clear hr
      have hk : k = 1 ∨ k = 2 ∨ k = 3 ∨ k = 4 ∨ k = 5 ∨ k = 6 ∨ k = 7 ∨ k = 8 ∨ k = 9 ∨ k = 10 ∨ k = 11 ∨ k = 12 := by omega
      rcases hk with rfl | rfl | rfl | rfl | rfl | rfl | rfl | rfl | rfl | rfl | rfl | rfl
      · simp only [tyOf] at *
        have hh := fun v w => assert_hit 39 v w (by kernel_rfl)
        clear HVR HC
        go_wp2_with fail
        go_ret2
        exact ⟨by simp [hokk], HB.out⟩
      · simp only [tyOf] at *
        obtain ⟨z0, hz0⟩ := assert_miss 45 39 (by decide) (by kernel_rfl) (by kernel_rfl)
        have hh := fun v w => assert_hit 45 v w (by kernel_rfl)
        clear HVR HC
        go_wp2_with fail
        go_ret2
        exact ⟨by simp [hokk], HB.out⟩
      · simp only [tyOf] at *
        obtain ⟨z0, hz0⟩ := assert_miss 51 39 (by decide) (by kernel_rfl) (by kernel_rfl)
        obtain ⟨z1, hz1⟩ := assert_miss 51 45 (by decide) (by kernel_rfl) (by kernel_rfl)
        have hh := fun v w => assert_hit 51 v w (by kernel_rfl)
        clear HVR HC
        go_wp2_with fail
        go_ret2
        exact ⟨by simp [hokk], HB.out⟩
      · simp only [tyOf] at *
        obtain ⟨z0, hz0⟩ := assert_miss 53 39 (by decide) (by kernel_rfl) (by kernel_rfl)
        obtain ⟨z1, hz1⟩ := assert_miss 53 45 (by decide) (by kernel_rfl) (by kernel_rfl)
        obtain ⟨z2, hz2⟩ := assert_miss 53 51 (by decide) (by kernel_rfl) (by kernel_rfl)
        have hh := fun v w => assert_hit 53 v w (by kernel_rfl)
        clear HVR HC
        go_wp2_with fail
        go_ret2
        exact ⟨by simp [hokk], HB.out⟩
      · simp only [tyOf] at *
        obtain ⟨z0, hz0⟩ := assert_miss 55 39 (by decide) (by kernel_rfl) (by kernel_rfl)
        obtain ⟨z1, hz1⟩ := assert_miss 55 45 (by decide) (by kernel_rfl) (by kernel_rfl)
        obtain ⟨z2, hz2⟩ := assert_miss 55 51 (by decide) (by kernel_rfl) (by kernel_rfl)
        obtain ⟨z3, hz3⟩ := assert_miss 55 53 (by decide) (by kernel_rfl) (by kernel_rfl)
        have hh := fun v w => assert_hit 55 v w (by kernel_rfl)
        clear HVR HC
        go_wp2_with fail
        go_ret2
        exact ⟨by simp [hokk], HB.out⟩
      · simp only [tyOf] at *
        obtain ⟨z0, hz0⟩ := assert_miss 56 39 (by decide) (by kernel_rfl) (by kernel_rfl)
        obtain ⟨z1, hz1⟩ := assert_miss 56 45 (by decide) (by kernel_rfl) (by kernel_rfl)
        obtain ⟨z2, hz2⟩ := assert_miss 56 51 (by decide) (by kernel_rfl) (by kernel_rfl)
        obtain ⟨z3, hz3⟩ := assert_miss 56 53 (by decide) (by kernel_rfl) (by kernel_rfl)
        obtain ⟨z4, hz4⟩ := assert_miss 56 55 (by decide) (by kernel_rfl) (by kernel_rfl)
        have hh := fun v w => assert_hit 56 v w (by kernel_rfl)
        clear HVR HC
        go_wp2_with fail
        go_ret2
        exact ⟨by simp [hokk], HB.out⟩
      · simp only [tyOf] at *
        obtain ⟨z0, hz0⟩ := assert_miss 59 39 (by decide) (by kernel_rfl) (by kernel_rfl)
        obtain ⟨z1, hz1⟩ := assert_miss 59 45 (by decide) (by kernel_rfl) (by kernel_rfl)
        obtain ⟨z2, hz2⟩ := assert_miss 59 51 (by decide) (by kernel_rfl) (by kernel_rfl)
        obtain ⟨z3, hz3⟩ := assert_miss 59 53 (by decide) (by kernel_rfl) (by kernel_rfl)
        obtain ⟨z4, hz4⟩ := assert_miss 59 55 (by decide) (by kernel_rfl) (by kernel_rfl)
        obtain ⟨z5, hz5⟩ := assert_miss 59 56 (by decide) (by kernel_rfl) (by kernel_rfl)
        have hh := fun v w => assert_hit 59 v w (by kernel_rfl)
        clear HVR HC
        go_wp2_with fail
        go_ret2
        exact ⟨by simp [hokk], HB.out⟩
      · simp only [tyOf] at *
        obtain ⟨z0, hz0⟩ := assert_miss 60 39 (by decide) (by kernel_rfl) (by kernel_rfl)
        obtain ⟨z1, hz1⟩ := assert_miss 60 45 (by decide) (by kernel_rfl) (by kernel_rfl)
        obtain ⟨z2, hz2⟩ := assert_miss 60 51 (by decide) (by kernel_rfl) (by kernel_rfl)
        obtain ⟨z3, hz3⟩ := assert_miss 60 53 (by decide) (by kernel_rfl) (by kernel_rfl)
        obtain ⟨z4, hz4⟩ := assert_miss 60 55 (by decide) (by kernel_rfl) (by kernel_rfl)
        obtain ⟨z5, hz5⟩ := assert_miss 60 56 (by decide) (by kernel_rfl) (by kernel_rfl)
        obtain ⟨z6, hz6⟩ := assert_miss 60 59 (by decide) (by kernel_rfl) (by kernel_rfl)
        have hh := fun v w => assert_hit 60 v w (by kernel_rfl)
        clear HVR HC
        go_wp2_with fail
        go_ret2
        exact ⟨by simp [hokk], HB.out⟩
      · simp only [tyOf] at *
        obtain ⟨z0, hz0⟩ := assert_miss 62 39 (by decide) (by kernel_rfl) (by kernel_rfl)
        obtain ⟨z1, hz1⟩ := assert_miss 62 45 (by decide) (by kernel_rfl) (by kernel_rfl)
        obtain ⟨z2, hz2⟩ := assert_miss 62 51 (by decide) (by kernel_rfl) (by kernel_rfl)
        obtain ⟨z3, hz3⟩ := assert_miss 62 53 (by decide) (by kernel_rfl) (by kernel_rfl)
        obtain ⟨z4, hz4⟩ := assert_miss 62 55 (by decide) (by kernel_rfl) (by kernel_rfl)
        obtain ⟨z5, hz5⟩ := assert_miss 62 56 (by decide) (by kernel_rfl) (by kernel_rfl)
        obtain ⟨z6, hz6⟩ := assert_miss 62 59 (by decide) (by kernel_rfl) (by kernel_rfl)
        obtain ⟨z7, hz7⟩ := assert_miss 62 60 (by decide) (by kernel_rfl) (by kernel_rfl)
        have hh := fun v w => assert_hit 62 v w (by kernel_rfl)
        clear HVR HC
        go_wp2_with fail
        go_ret2
        exact ⟨by simp [hokk], HB.out⟩
      · simp only [tyOf] at *
        obtain ⟨z0, hz0⟩ := assert_miss 63 39 (by decide) (by kernel_rfl) (by kernel_rfl)
        obtain ⟨z1, hz1⟩ := assert_miss 63 45 (by decide) (by kernel_rfl) (by kernel_rfl)
        obtain ⟨z2, hz2⟩ := assert_miss 63 51 (by decide) (by kernel_rfl) (by kernel_rfl)
        obtain ⟨z3, hz3⟩ := assert_miss 63 53 (by decide) (by kernel_rfl) (by kernel_rfl)
        obtain ⟨z4, hz4⟩ := assert_miss 63 55 (by decide) (by kernel_rfl) (by kernel_rfl)
        obtain ⟨z5, hz5⟩ := assert_miss 63 56 (by decide) (by kernel_rfl) (by kernel_rfl)
        obtain ⟨z6, hz6⟩ := assert_miss 63 59 (by decide) (by kernel_rfl) (by kernel_rfl)
        obtain ⟨z7, hz7⟩ := assert_miss 63 60 (by decide) (by kernel_rfl) (by kernel_rfl)
        obtain ⟨z8, hz8⟩ := assert_miss 63 62 (by decide) (by kernel_rfl) (by kernel_rfl)
        have hh := fun v w => assert_hit 63 v w (by kernel_rfl)
        clear HVR HC
        go_wp2_with fail
        go_ret2
        exact ⟨by simp [hokk], HB.out⟩
      · simp only [tyOf] at *
        obtain ⟨z0, hz0⟩ := assert_miss 67 39 (by decide) (by kernel_rfl) (by kernel_rfl)
        obtain ⟨z1, hz1⟩ := assert_miss 67 45 (by decide) (by kernel_rfl) (by kernel_rfl)
        obtain ⟨z2, hz2⟩ := assert_miss 67 51 (by decide) (by kernel_rfl) (by kernel_rfl)
        obtain ⟨z3, hz3⟩ := assert_miss 67 53 (by decide) (by kernel_rfl) (by kernel_rfl)
        obtain ⟨z4, hz4⟩ := assert_miss 67 55 (by decide) (by kernel_rfl) (by kernel_rfl)
        obtain ⟨z5, hz5⟩ := assert_miss 67 56 (by decide) (by kernel_rfl) (by kernel_rfl)
        obtain ⟨z6, hz6⟩ := assert_miss 67 59 (by decide) (by kernel_rfl) (by kernel_rfl)
        obtain ⟨z7, hz7⟩ := assert_miss 67 60 (by decide) (by kernel_rfl) (by kernel_rfl)
        obtain ⟨z8, hz8⟩ := assert_miss 67 62 (by decide) (by kernel_rfl) (by kernel_rfl)
        obtain ⟨z9, hz9⟩ := assert_miss 67 63 (by decide) (by kernel_rfl) (by kernel_rfl)
        have hh := fun v w => assert_hit 67 v w (by kernel_rfl)
        clear HVR HC
        go_wp2_with fail
        go_ret2
        exact ⟨by simp [hokk], HB.out⟩
      · simp only [tyOf] at *
        obtain ⟨z0, hz0⟩ := assert_miss 69 39 (by decide) (by kernel_rfl) (by kernel_rfl)
        obtain ⟨z1, hz1⟩ := assert_miss 69 45 (by decide) (by kernel_rfl) (by kernel_rfl)
        obtain ⟨z2, hz2⟩ := assert_miss 69 51 (by decide) (by kernel_rfl) (by kernel_rfl)
        obtain ⟨z3, hz3⟩ := assert_miss 69 53 (by decide) (by kernel_rfl) (by kernel_rfl)
        obtain ⟨z4, hz4⟩ := assert_miss 69 55 (by decide) (by kernel_rfl) (by kernel_rfl)
        obtain ⟨z5, hz5⟩ := assert_miss 69 56 (by decide) (by kernel_rfl) (by kernel_rfl)
        obtain ⟨z6, hz6⟩ := assert_miss 69 59 (by decide) (by kernel_rfl) (by kernel_rfl)
        obtain ⟨z7, hz7⟩ := assert_miss 69 60 (by decide) (by kernel_rfl) (by kernel_rfl)
        obtain ⟨z8, hz8⟩ := assert_miss 69 62 (by decide) (by kernel_rfl) (by kernel_rfl)
        obtain ⟨z9, hz9⟩ := assert_miss 69 63 (by decide) (by kernel_rfl) (by kernel_rfl)
        obtain ⟨z10, hz10⟩ := assert_miss 69 67 (by decide) (by kernel_rfl) (by kernel_rfl)
        have hh := fun v w => assert_hit 69 v w (by kernel_rfl)
        clear HVR HC
        go_wp2_with fail
        go_ret2
        exact ⟨by simp [hokk], HB.out⟩
end Go.Proofs.YtoofphhfealcaaaGreatDoor

namespace Go.Proofs.YtoofphhfealcaaaGreatDoor
open Go.RowKit

/-- The names, by their sorts; the sort 0 has none. -/
def nameTab : List (List (List UInt8)) := [
  [],
  [[65, 108, 109, 97, 76, 105, 110, 117, 120], [77, 97, 103, 101, 105, 97], [111, 112, 101, 110, 69, 117, 108, 101, 114], [111, 112, 101, 110, 83, 85, 83, 69], [82, 101, 100, 32, 72, 97, 116], [82, 111, 99, 107, 121, 32, 76, 105, 110, 117, 120], [83, 85, 83, 69]],
  [[65, 108, 112, 97, 113, 117, 105, 116, 97], [65, 108, 112, 105, 110, 101], [66, 101, 108, 108, 83, 111, 102, 116, 32, 72, 97, 114, 100, 101, 110, 101, 100, 32, 67, 111, 110, 116, 97, 105, 110, 101, 114, 115], [67, 104, 97, 105, 110, 103, 117, 97, 114, 100], [77, 105, 110, 105, 109, 79, 83], [87, 111, 108, 102, 105]],
  [[66, 105, 116, 110, 97, 109, 105], [66, 105, 111, 99, 111, 110, 100, 117, 99, 116, 111, 114], [67, 111, 110, 97, 110, 67, 101, 110, 116, 101, 114], [99, 114, 97, 116, 101, 115, 46, 105, 111], [68, 111, 99, 107, 101, 114, 32, 72, 97, 114, 100, 101, 110, 101, 100, 32, 73, 109, 97, 103, 101, 115], [71, 72, 67], [71, 111], [72, 101, 120], [74, 117, 108, 105, 97], [110, 112, 109], [83, 119, 105, 102, 116, 85, 82, 76]],
  [[67, 82, 65, 78]],
  [[68, 101, 98, 105, 97, 110], [85, 98, 117, 110, 116, 117]],
  [[72, 97, 99, 107, 97, 103, 101]],
  [[77, 97, 118, 101, 110]],
  [[78, 117, 71, 101, 116]],
  [[80, 97, 99, 107, 97, 103, 105, 115, 116]],
  [[80, 117, 98]],
  [[80, 121, 80, 73]],
  [[82, 117, 98, 121, 71, 101, 109, 115]]]
/-- Blocks made one behind the other. -/
def allocs (w : World) : List Obj → World
  | [] => w
  | o :: r => allocs (w.alloc o) r
theorem allocs_old : ∀ (L : List Obj) (w : World) (k : Nat), k < w.heap.size → (allocs w L).heap[k]? = w.heap[k]?
  | [], _, _, _ => rfl
  | o :: r, w, k, h => by
    unfold allocs
    rw [allocs_old r (w.alloc o) k (by rw [World.size_alloc]; omega), heap_alloc_old w o h]
theorem allocs_heap : ∀ (L : List Obj) (w : World) (i : Nat) (h : i < L.length), (allocs w L).heap[w.heap.size + i]? = some (L[i]'h)
  | o :: r, w, 0, _ => by
    unfold allocs
    rw [allocs_old r (w.alloc o) _ (by rw [World.size_alloc]; omega)]
    exact heap_alloc_new w o
  | o :: r, w, i + 1, h => by
    unfold allocs
    have := allocs_heap r (w.alloc o) i (by simpa using h)
    rw [World.size_alloc] at this
    rw [show w.heap.size + (i + 1) = w.heap.size + 1 + i by omega, this]
    simp
theorem allocs_below : ∀ (L : List Obj) (w0 w : World) (n : Nat), n ≤ w.heap.size → Below n w0 w → Below n w0 (allocs w L)
  | [], _, _, _, _, h => h
  | o :: r, w0, w, n, hn, h => by
    unfold allocs
    exact allocs_below r w0 (w.alloc o) n (by rw [World.size_alloc]; omega) (h.alloc hn o)
/-- A row of names. -/
def nameObj (l : List (List UInt8)) : Obj := .cells (l.map fun x => Value.string (mk x)).toArray 9
/-- The row of the rows. -/
def rowsObj (b : Nat) : Obj := .cells #[.slice (some ⟨b + 0, 0, none⟩) 0 0, .slice (some ⟨b + 1, 0, none⟩) 7 7, .slice (some ⟨b + 2, 0, none⟩) 6 6, .slice (some ⟨b + 3, 0, none⟩) 11 11, .slice (some ⟨b + 4, 0, none⟩) 1 1, .slice (some ⟨b + 5, 0, none⟩) 2 2, .slice (some ⟨b + 6, 0, none⟩) 1 1, .slice (some ⟨b + 7, 0, none⟩) 1 1, .slice (some ⟨b + 8, 0, none⟩) 1 1, .slice (some ⟨b + 9, 0, none⟩) 1 1, .slice (some ⟨b + 10, 0, none⟩) 1 1, .slice (some ⟨b + 11, 0, none⟩) 1 1, .slice (some ⟨b + 12, 0, none⟩) 1 1] 26
/-- A name of a sort: no colon is in it, and with an x behind it is none. -/
def NmOK (l : List UInt8) (k : Nat) : Prop := l.length ≤ 64 ∧ (58 : UInt8) ∉ l ∧ kindB l = k ∧ kindB (l ++ [120]) = 0
theorem names_ok : ∀ i : Fin 12, ∀ l ∈ nameTab.getD (i.val + 1) [], l.length ≤ 64 ∧ (58 : UInt8) ∉ l ∧ kindB l = i.val + 1 ∧ kindB (l ++ [120]) = 0 := by decide +kernel
theorem names_len : ∀ i : Fin 12, 0 < (nameTab.getD (i.val + 1) []).length ∧ (nameTab.getD (i.val + 1) []).length ≤ 11 := by decide +kernel
theorem rows_get (b : Nat) : ∀ i : Nat, i < 12 → ∃ cs, rowsObj b = .cells cs 26 ∧ cs[i + 1]? = some (.slice (some ⟨b + (i + 1), 0, none⟩) (nameTab.getD (i + 1) []).length (nameTab.getD (i + 1) []).length) := by
  intro i hi
  refine ⟨_, rfl, ?_⟩
  have : i = 0 ∨ i = 1 ∨ i = 2 ∨ i = 3 ∨ i = 4 ∨ i = 5 ∨ i = 6 ∨ i = 7 ∨ i = 8 ∨ i = 9 ∨ i = 10 ∨ i = 11 := by omega
  rcases this with rfl | rfl | rfl | rfl | rfl | rfl | rfl | rfl | rfl | rfl | rfl | rfl <;> rfl
def NamesPost (w : World) (e : Ending) (w' : World) : Prop :=
  ∃ g, e = .returned (.slice (some ⟨g, 0, none⟩) 13 13) ∧ (∀ i : Nat, i < 12 → ∃ gi n : Nat, w'.cell? ⟨g, i + 1, none⟩ = some (.slice (some ⟨gi, 0, none⟩) n n) ∧ 0 < n ∧ n ≤ 11 ∧ ∀ j, j < n → ∃ l, w'.cell? ⟨gi, j, none⟩ = some (.string (mk l)) ∧ NmOK l (i + 1)) ∧ Below w.heap.size w w'
theorem names_post (w : World) : (∀ i : Nat, i < 12 → ∃ gi n : Nat, (allocs w (nameTab.map nameObj ++ [rowsObj w.heap.size])).cell? ⟨w.heap.size + 13, i + 1, none⟩ = some (.slice (some ⟨gi, 0, none⟩) n n) ∧ 0 < n ∧ n ≤ 11 ∧ ∀ j, j < n → ∃ l, (allocs w (nameTab.map nameObj ++ [rowsObj w.heap.size])).cell? ⟨gi, j, none⟩ = some (.string (mk l)) ∧ NmOK l (i + 1)) := by
  intro i hi
  obtain ⟨cs, h1, h2⟩ := rows_get w.heap.size i hi
  have hl : (nameTab.map nameObj ++ [rowsObj w.heap.size]).length = 14 := by simp [nameTab]
  have h3 := allocs_heap (nameTab.map nameObj ++ [rowsObj w.heap.size]) w 13 (by rw [hl]; omega)
  rw [List.getElem_append_right (by simp [nameTab])] at h3
  simp only [List.length_map, List.getElem_singleton] at h3
  replace h3 := h3.trans (congrArg some h1)
  obtain ⟨n1, n2⟩ := names_len ⟨i, hi⟩
  refine ⟨w.heap.size + (i + 1), _, ?_, n1, n2, fun j hj => ?_⟩
  · rw [cell_of_row _ _ _ _ _ _ h3]
    exact h2
  · have hi1 : i + 1 < nameTab.length := by simp [nameTab]; omega
    have h4 := allocs_heap (nameTab.map nameObj ++ [rowsObj w.heap.size]) w (i + 1) (by rw [hl]; omega)
    rw [List.getElem_append_left (by simpa using hi1), List.getElem_map] at h4
    have hg : nameTab.getD (i + 1) [] = nameTab[i + 1]'hi1 := by rw [List.getD_eq_getElem?_getD, List.getElem?_eq_getElem hi1]; rfl
    rw [hg] at hj
    refine ⟨(nameTab[i + 1]'hi1)[j]'hj, ?_, ?_⟩
    · rw [cell_of_row _ _ _ _ _ _ h4]
      simp [hj]
    · have := names_ok ⟨i, hi⟩ ((nameTab[i + 1]'hi1)[j]'hj) (by rw [hg]; exact List.getElem_mem _)
      exact this
set_option maxRecDepth 100000 in
set_option maxHeartbeats 8000000 in
theorem names_any (w : World) : Calls Tryz.prog 9 #[] w (NamesPost w) := by
  have hW := names_post w
  have hB := allocs_below (nameTab.map nameObj ++ [rowsObj w.heap.size]) w w w.heap.size (Nat.le_refl _) (Below.refl _ _)
  have HW := Lib.hid hW
  have HB := Lib.hid hB
  clear hW hB
  go_enter Tryz.func9, Tryz.ntmps9
  go_wp2_with fail
  go_ret
  exact ⟨w.heap.size + 13, rfl, HW.out, HB.out⟩
end Go.Proofs.YtoofphhfealcaaaGreatDoor

namespace Go.Proofs.YtoofphhfealcaaaGreatDoor
open Go.RowKit
/-- The text "1.2.3". -/
def t123 : ByteArray := mk [49, 46, 50, 46, 51]
def nilErr : Nat → Value := fun _ => .nilIface
/-- What Ecosystem answers at "1.2.3". -/
def KPost (w : World) (k : Int) (ok : Bool) (e : Ending) (w' : World) : Prop := e = .returned (.tuple #[.int .i64 k, .bool ok]) ∧ Below w.heap.size w w'
theorem eco_hit (l r : List UInt8) (name : ByteArray) (hn : name = mk (l ++ r)) (hr : r = [] ∨ ∃ t, r = 58 :: t) (k : Nat) (hk : NmOK l (k + 1)) (K : Int) (hK : K = ((k + 1 : Nat) : Int)) (hsz : r.length ≤ 2147483648) (w : World) (a ae ai au : Addr) (hG : Gt w a ae ai au) (hP : ∀ k, POK t123 a ae ai au nilErr k) : Calls Tryz.prog 7 #[.string name, .string t123] w (KPost w K true) := by
  obtain ⟨h1, h2, h3, h4⟩ := hk
  subst hn
  have hb : bareL (bs (mk (l ++ r))) = l := by
    rw [bs_mk]
    rcases hr with rfl | ⟨t, rfl⟩
    · rw [List.append_nil, take_while_all l h2]
    · exact take_while_hit l t h2
  refine (eco_any t123 (mk (l ++ r)) w a ae ai au nilErr hG (hP _) (by rw [mk_size, List.length_append]; omega) (fun _ => true) (fun _ => rfl)).mono ?_
  rintro e w' ⟨he, hB⟩
  rw [hb, h3] at he
  refine ⟨?_, hB⟩
  rw [he, hK]
  simp
theorem eco_miss (l : List UInt8) (h2 : (58 : UInt8) ∉ l) (h3 : kindB l = 0) (hl : l.length ≤ 1000) (w : World) (a ae ai au : Addr) (hG : Gt w a ae ai au) (hP : ∀ k, POK t123 a ae ai au nilErr k) : Calls Tryz.prog 7 #[.string (mk l), .string t123] w (KPost w 0 false) := by
  refine (eco_any t123 (mk l) w a ae ai au nilErr hG (hP _) (by rw [mk_size]; omega) (fun _ => true) (fun _ => rfl)).mono ?_
  rintro e w' ⟨he, hB⟩
  rw [bs_mk, take_while_all l h2, h3] at he
  refine ⟨?_, hB⟩
  rw [he]
  simp
theorem mk_join (l : List UInt8) (t : ByteArray) : mk l ++ ⟨#[58]⟩ ++ t = mk (l ++ 58 :: bs t) := by
  apply bs_inj
  rw [bs_mk]
  simp [bs, mk]
theorem mk_x (l : List UInt8) : mk l ++ ⟨#[120]⟩ = mk (l ++ [120]) := by
  apply bs_inj
  rw [bs_mk]
  simp [bs, mk]
set_option maxRecDepth 100000 in
set_option maxHeartbeats 8000000 in
theorem law_any (so at' : Nat) (hso : so < 256) (hat : at' < 256) (tail : ByteArray) (w : World) (a ae ai au : Addr) (hG : Gt w a ae ai au) (hP : ∀ k, POK t123 a ae ai au nilErr k) (hs : tail.size ≤ 2147483647) :
    Calls Tryz.prog 4 #[.int .u8 so, .int .u8 at', .string tail] w fun e w' => e = .returned (.bool true) ∧ Below w.heap.size w w' := by
  have HG := Lib.hid hG
  have HP := Lib.hid hP
  have hq : so % 12 < 12 := Nat.mod_lt _ (by omega)
  clear hG hP
  go_enter Tryz.func4, Tryz.ntmps4
  go_upto_region 4 with (go_at_call 9; refine (names_any _).mono ?_; rintro e w1 ⟨g, rfl, hN, hB⟩; have HB := Lib.hid hB; obtain ⟨gi, n, hc1, hn0, hn11, hrow⟩ := hN (so % 12) hq; obtain ⟨m, hm, hmn⟩ : ∃ m : Nat, (at' : Int) % (n : Int) = (m : Int) ∧ m < n := ⟨at' % n, by simp, Nat.mod_lt _ hn0⟩; obtain ⟨l, hc2, hl⟩ := hrow m hmn; have HL := Lib.hid hl; rw [Nat.add_comm] at hc1; clear hB hN hrow hl)
  have HG1 := Lib.hid (gt_below HG.out HB.out)
  have hll := HL.out.1
  have hsl : (mk l).size ≤ 64 := by rw [mk_size]; exact hll
  have HNX : Hid ((58 : UInt8) ∉ l ++ [120]) := by
    intro h
    rw [List.mem_append, List.mem_singleton] at h
    rcases h with h | h
    · exact HL.out.2.1 h
    · exact absurd h (by decide)
  go_upto_region 6 with (go_at_call 7; refine (eco_hit l [] (mk l) (by simp) (.inl rfl) (so % 12) HL.out (1 + (so : Int) % 12) (by omega) (by simp) _ a ae ai au HG1.out HP.out).mono ?_; rintro e w2 ⟨rfl, hB⟩; have HB2 := Lib.hid hB; have HG2 := Lib.hid (gt_below HG1.out hB); clear hB)
  go_upto_region 7 with (go_at_call 7; refine (eco_hit l (58 :: bs tail) _ (mk_join l tail) (.inr ⟨_, rfl⟩) (so % 12) HL.out (1 + (so : Int) % 12) (by omega) (by rw [List.length_cons, bs_len]; omega) _ a ae ai au HG2.out HP.out).mono ?_; rintro e w3 ⟨rfl, hB⟩; have HB3 := Lib.hid hB; have HG3 := Lib.hid (gt_below HG2.out hB); clear hB)
  go_upto_region 10 with (go_at_call 7; rw [mk_x l]; refine (eco_miss (l ++ [120]) HNX.out HL.out.2.2.2 (by rw [List.length_append]; simp; omega) _ a ae ai au HG3.out HP.out).mono ?_; rintro e w4 ⟨rfl, hB⟩; have HB4 := Lib.hid hB; have HG4 := Lib.hid (gt_below HG3.out hB); clear hB)
  go_wp2_with (go_at_call 7; refine (eco_miss [] (by simp) (by decide) (by simp) _ a ae ai au HG4.out HP.out).mono ?_; rintro e w5 ⟨rfl, hB⟩; have HB5 := Lib.hid hB; clear hB)
  go_ret
  refine ⟨rfl, ?_⟩
  have b1 := HB.out.size
  have b2 := HB2.out.size
  have b3 := HB3.out.size
  have b4 := HB4.out.size
  exact HB.out.trans ((HB2.out.mono b1).trans ((HB3.out.mono (by omega)).trans ((HB4.out.mono (by omega)).trans (HB5.out.mono (by omega)))))
theorem law_all (so at' : Nat) (hso : so < 256) (hat : at' < 256) (tail : ByteArray) (w : World) (a ae ai au : Addr) (hG : Gt w a ae ai au) (hP : ∀ k, POK t123 a ae ai au nilErr k) :
    Calls Tryz.prog 4 #[.int .u8 so, .int .u8 at', .string tail] w fun e w' => e = .returned (.bool true) ∧ Below w.heap.size w w' := by
  by_cases hs : tail.size ≤ 2147483647
  · exact law_any so at' hso hat tail w a ae ai au hG hP hs
  · clear hG hP
    go_enter Tryz.func4, Tryz.ntmps4
    go_wp2_with fail
    go_ret
    exact ⟨rfl, Below.refl _ _⟩
end Go.Proofs.YtoofphhfealcaaaGreatDoor

namespace Go.Proofs.YtoofphhfealcaaaGreatDoor
open Go.RowKit

theorem bs123 : bs t123 = [49, 46, 50, 46, 51] := by rw [t123, bs_mk]
theorem sz123 : t123.size = 5 := by rw [← bs_len, bs123]; rfl
theorem asc123 : Asc (bs t123) := by
  rw [bs123]
  show ∀ b ∈ ([49, 46, 50, 46, 51] : List UInt8), b.toNat < 128
  decide
theorem dd123 : ∀ c ∈ bs t123, dotDig c = true := by
  rw [bs123]
  decide
theorem agg_rv {f : FuncId} {s : ByteArray} {W : World} (h : Calls Tryz.prog f #[.string s] W (AggPost W)) : Calls Tryz.prog f #[.string s] W fun e w' => ∃ cs, e = .returned (.agg cs) ∧ Below W.heap.size W w' :=
  h.mono fun _ _ ⟨⟨cs, he⟩, hB⟩ => ⟨cs, he, hB⟩
theorem trim123 : Lib.trimPrefix (bs t123) [118] = bs t123 := by rw [bs123]; decide
theorem nds123 : nds (Lib.trimPrefix (bs t123) [118]) + 1 ≤ 3 := by rw [trim123, bs123]; decide
theorem pok123 (a ae ai au : Addr) (k : Nat) : POK t123 a ae ai au nilErr k where
  p1 := fun _ W _ => agg_rv (parseRedHat_any t123 W (by rw [sz123]; omega))
  p2 := fun _ W hG => (parseAlpine_dd t123 W a ae ai au hG (by rw [sz123]; omega) dd123).mono fun _ _ ⟨cs, he, hB⟩ => ⟨cs, he, hB⟩
  p3 := fun _ W hG => agg_rv (parseSemver_any t123 W a ae ai au (fcb_small 3 t123 (.inr (by have := nds123; omega))) hG.toGl (by rw [sz123]; omega) asc123)
  p4 := fun _ W hG => (parseCRAN_any t123 W a ae ai au hG.toGl (by rw [sz123]; omega)).mono fun _ _ ⟨cs, er, he, h1, hB⟩ => by
    refine ⟨cs, ?_, hB⟩
    rw [he, h1, if_pos]
    · rfl
    · right
      rw [bs123]
      decide
  p5 := fun _ W hG => (parseDebian_any t123 W a ae ai au hG (by rw [sz123]; omega) asc123).mono fun _ _ ⟨cs, er, he, h1, hB⟩ => by
    refine ⟨cs, ?_, hB⟩
    have h2 : (58 : UInt8) ∉ bs (trimB t123) := by
      unfold trimB
      rw [show t123.data.toList = [49, 46, 50, 46, 51] from bs123]
      decide
    rcases h1 with ⟨_, h⟩ | ⟨i, hF, _⟩
    · rw [he, h]; rfl
    · exfalso
      obtain ⟨f1, f2⟩ := first_split hF
      apply h2
      rw [f1]
      simp
  p6 := fun _ W hG => (parseHackage_any t123 W a ae ai au hG.toGl (by rw [sz123]; omega) asc123).mono fun _ _ ⟨cs, er, he, h1, hB⟩ => by
    refine ⟨cs, ?_, hB⟩
    rcases h1 with ⟨_, h⟩ | ⟨h, _⟩
    · rw [he, h]; rfl
    · exact absurd (by rw [trim123]; exact dd123) h
  p7 := fun _ W hG => agg_rv (parseMaven_any 19 strOK_19 t123 W a ae ai au hG.toGl (by rw [sz123]; omega) (by rw [sz123]; omega) (by omega) (by omega) asc123)
  p8 := fun _ W hG => agg_rv (parseNuGet_any t123 W a ae ai au (fcb_small 4 t123 (.inr (by have := nds123; omega))) hG.toGl (by rw [sz123]; omega) asc123)
  p9 := fun _ W _ => agg_rv (parsePackagist_any t123 W (by rw [sz123]; omega) asc123)
  p10 := fun _ W hG => agg_rv (parsePub_any t123 W a ae ai au (fcb_small 3 t123 (.inr (by have := nds123; omega))) hG.toGl (by rw [sz123]; omega) asc123)
  p11 := fun _ W hG => (parsePyPI_any t123 W a ae ai au hG.toGl (by rw [sz123]; omega) asc123).mono fun _ _ ⟨cs, he, hB⟩ => ⟨cs, he, hB⟩
  p12 := fun _ W hG => agg_rv (parseRuby_any t123 W a ae ai au hG.toGl (by rw [sz123]; omega) asc123)
  e1 := fun _ _ => rfl
theorem law_ok (so at' : Nat) (hso : so < 256) (hat : at' < 256) (tail : ByteArray) (w : World) (a ae ai au : Addr) (hG : Gt w a ae ai au) :
    Calls Tryz.prog 4 #[.int .u8 so, .int .u8 at', .string tail] w fun e w' => e = .returned (.bool true) ∧ Below w.heap.size w w' :=
  law_all so at' hso hat tail w a ae ai au hG (pok123 a ae ai au)
end Go.Proofs.YtoofphhfealcaaaGreatDoor
