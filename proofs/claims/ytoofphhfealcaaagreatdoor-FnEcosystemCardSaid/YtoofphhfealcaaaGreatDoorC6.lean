/-
  WALKS: nat.scan in base 10.
-/
import Derived.Test.YtoofphhfealcaaaGreatDoorC5
import Derived.LaidEql
import Derived.Deep.CutBlock
import Derived.Deep.DeepCutAuto
namespace Go.Proofs.YtoofphhfealcaaaGreatDoor
open Go.RowKit

def isDig (c : UInt8) : Bool := decide (48 ≤ c.toNat) && decide (c.toNat ≤ 57)
/-- The number that decimal digits write. -/
def decV (l : List UInt8) : Int := l.foldl (fun a c => a * 10 + ((c.toNat : Int) - 48)) 0
theorem dig_rng {c : UInt8} (h : isDig c = true) : 48 ≤ c.toNat ∧ c.toNat ≤ 57 := by
  unfold isDig at h
  rw [Bool.and_eq_true, decide_eq_true_eq, decide_eq_true_eq] at h
  exact h
theorem decV_snoc (l : List UInt8) (c : UInt8) : decV (l ++ [c]) = decV l * 10 + ((c.toNat : Int) - 48) := by simp [decV, List.foldl_append]

/-- What nat.scan has done after k digits: i of them are still in di. -/
structure Sc (w0 wr : World) (rb p : Nat) (s : ByteArray) (z : Value) (xs : List Int) (k i : Nat) (di : Int) : Prop where
  own : NatO wr w0.heap.size z xs
  wds : Words xs
  nz : nrm xs = xs
  nil : xs = [] → z = .slice none 0 0
  cap : capLe z (k + 5)
  len : xs.length ≤ k
  vl : val xs * ten i + di = decV (((bs s).drop p).take k)
  di0 : 0 ≤ di
  di1 : di < ten i
  i19 : i < 19
  ik : i ≤ k
  dig : ∀ c ∈ ((bs s).drop p).take k, isDig c = true
  pk : p + k ≤ s.size
  grown : w0.grownBy wr (some rb)
  rb0 : rb < w0.heap.size
theorem own_keep {w w1 : World} {base : Nat} {v : Value} {xs : List Int} {r : Option Nat} (h : NatO w base v xs) (hg : w.grownBy w1 r) (hr : ∀ k, r = some k → k < base) : NatO w1 base v xs := by
  refine h.kept hg ?_
  rcases hb : v.ownBlock with _ | b
  · exact .inl rfl
  · refine .inr (fun e => ?_)
    have := hr b e.symm
    have := (h.lt b hb).1
    omega
theorem Sc.read {w0 wr w1 : World} {rb p : Nat} {s : ByteArray} {z : Value} {xs : List Int} {k i : Nat} {di : Int} (h : Sc w0 wr rb p s z xs k i di) (hg : wr.grownBy w1 (some rb)) : Sc w0 w1 rb p s z xs k i di :=
  { h with own := own_keep h.own hg (fun k hk => by injection hk with hk; have := h.rb0; omega), grown := grown_trans h.grown hg }
theorem take_next (l : List UInt8) (p k : Nat) (h : p + k < l.length) : (l.drop p).take (k + 1) = (l.drop p).take k ++ [l[p + k]] := by
  rw [List.take_succ_eq_append_getElem (by simp; omega)]
  simp
theorem Sc.digit {w0 wr : World} {rb p : Nat} {s : ByteArray} {z : Value} {xs : List Int} {k i : Nat} {di : Int} (h : Sc w0 wr rb p s z xs k i di) (hk : p + k < s.size) (hd : isDig (s[p + k]) = true) (hi : i + 1 < 19) :
    Sc w0 wr rb p s z xs (k + 1) (i + 1) (di * 10 + (((s[p + k]).toNat : Int) - 48)) := by
  have hl : p + k < (bs s).length := by rw [bs_len]; exact hk
  have hc := dig_rng hd
  have e : (bs s)[p + k] = s[p + k] := rfl
  refine { h with cap := ?_, len := by have := h.len; omega, vl := ?_, di0 := by have := h.di0; omega, di1 := by have := h.di1; rw [ten_succ]; omega, i19 := hi, ik := by have := h.ik; omega, dig := ?_, pk := by omega }
  · obtain ⟨A, m, c, e, hc⟩ := h.cap
    exact ⟨A, m, c, e, by omega⟩
  · rw [take_next _ _ _ hl, decV_snoc, ← h.vl, ten_succ, e, Int.add_mul, Int.mul_assoc]
    omega
  · rw [take_next _ _ _ hl]
    intro c hm
    rw [List.mem_append, List.mem_singleton] at hm
    rcases hm with hm | rfl
    · exact h.dig c hm
    · exact hd
theorem Sc.full {w0 wr w1 : World} {rb p : Nat} {s : ByteArray} {z z1 : Value} {xs zs : List Int} {k : Nat} {di : Int} (h : Sc w0 wr rb p s z xs k 18 di) (hk : p + k < s.size) (hd : isDig (s[p + k]) = true)
    (hO : NatO w1 w0.heap.size z1 zs) (hw : Words zs) (hn : nrm zs = zs) (hv : val zs = val xs * 10000000000000000000 + (di * 10 + (((s[p + k]).toNat : Int) - 48))) (hl : zs.length ≤ xs.length + 1) (hnil : zs = [] → z1 = .slice none 0 0) (hcap : capLe z1 (max (k + 5) (xs.length + 5)))
    (hg : wr.grownBy w1 z.ownBlock) : Sc w0 w1 rb p s z1 zs (k + 1) 0 0 := by
  have hlt : p + k < (bs s).length := by rw [bs_len]; exact hk
  have e : (bs s)[p + k] = s[p + k] := rfl
  refine { h with own := hO, wds := hw, nz := hn, nil := hnil, cap := ?_, len := by have := h.len; omega, vl := ?_, di0 := by omega, di1 := by simp [ten], i19 := by omega, ik := by omega, dig := ?_, pk := by omega, grown := ?_ }
  · obtain ⟨A, m, c, e, hc⟩ := hcap
    have := h.len
    exact ⟨A, m, c, e, by omega⟩
  · rw [take_next _ _ _ hlt, decV_snoc, ← h.vl, hv, e, show ten 18 = 1000000000000000000 from by decide, ten_zero]
    omega
  · rw [take_next _ _ _ hlt]
    intro c hm
    rw [List.mem_append, List.mem_singleton] at hm
    rcases hm with hm | rfl
    · exact h.dig c hm
    · exact hd
  · refine ⟨hg.os.trans h.grown.os, hg.tape.trans h.grown.tape, hg.output.trans h.grown.output, Nat.le_trans h.grown.size hg.size, fun j hj hne => ?_⟩
    rw [hg.block j (Nat.lt_of_lt_of_le hj h.grown.size) (fun e => by have := (h.own.lt j e.symm).1; omega), h.grown.block j hj hne]
theorem rd_keep {w w1 : World} {rb : Nat} {s : ByteArray} {i : Nat} {r : Option Nat} (h : Rd w rb s i) (hg : w.grownBy w1 r) (hr : r ≠ some rb) : Rd w1 rb s i := by
  obtain ⟨p, h⟩ := h
  exact ⟨p, by rw [hg.block rb (Array.getElem?_eq_some_iff.1 h).1 (fun e => hr e.symm)]; exact h⟩
/-- What was seen last of the digits: a point ahead of the first one. -/
def pv (k : Nat) : Int := if k = 0 then 46 else 48
theorem pv_succ (k : Nat) : pv (k + 1) = 48 := by simp [pv]
theorem pv_rng (k : Nat) : pv k ≠ 95 := by unfold pv; split <;> omega

/-- The look-ahead: a byte, or the end. -/
def Look (wr : World) (rb : Nat) (s : ByteArray) (j : Nat) (eof err : Value) (c : Int) : Prop :=
  (∃ h : j < s.size, err = .nilIface ∧ c = ((s[j]'h).toNat : Int) ∧ Rd wr rb s (j + 1)) ∨ (j = s.size ∧ err = eof ∧ c = 0 ∧ Rd wr rb s s.size)

theorem cell3 {w w1 : World} {rb : Nat} {v : Value} (h : w.cell? ⟨3, 0, none⟩ = some v) (hg : w.grownBy w1 (some rb)) (hrb : 20 ≤ rb) : w1.cell? ⟨3, 0, none⟩ = some v :=
  hg.cell h (by intro e; injection e with e; simp at e; omega)
theorem readByte_look (rb j : Nat) (s : ByteArray) (w : World) (a : Addr) (h : Rd w rb s j) (hj : j ≤ s.size) (heof : w.cell? ⟨3, 0, none⟩ = some (.iface 364 (.pointer (some a)))) (hrb : 20 ≤ rb) (hs : s.size ≤ 4294967296) :
    Calls Tryz.prog 360 #[.pointer (some ⟨rb, 0, none⟩)] w fun e w' => ∃ c err, e = .returned (.tuple #[.int .u8 c, err]) ∧ Look w' rb s j (.iface 364 (.pointer (some a))) err c ∧ w.grownBy w' (some rb) := by
  by_cases hlt : j < s.size
  · refine (readByte_some rb s j w h hlt hs).mono ?_
    rintro e w' ⟨rfl, hR, hG⟩
    exact ⟨_, _, rfl, .inl ⟨hlt, rfl, rfl, hR⟩, hG⟩
  · have hje : j = s.size := by omega
    subst hje
    refine (readByte_end rb s w _ h heof (by omega) hs).mono ?_
    rintro e w' ⟨rfl, hR, hG⟩
    exact ⟨_, _, rfl, .inr ⟨rfl, rfl, rfl, hR⟩, hG⟩
theorem sc_start (w0 wr : World) (rb p : Nat) (s : ByteArray) (hp : p ≤ s.size) (hg : w0.grownBy wr (some rb)) (hrb : rb < w0.heap.size) : Sc w0 wr rb p s (.slice none 0 0) [] 0 0 0 :=
  ⟨natO_nil _ _, fun x hx => by simp at hx, rfl, fun _ => rfl, ⟨_, _, _, rfl, by omega⟩, by simp, by simp [val, decV, ten], by omega, by simp [ten], by omega, by omega, by simp, by omega, hg, hrb⟩

theorem results_tmp4 {fn : Func} {t u v x : Tmp} (h : fn.results = #[.tmp t, .tmp u, .tmp v, .tmp x]) (tmps : Array Value) (P : Program) (w : World) :
    (results fn tmps).run P w = .ok (.tuple #[tmps.getD t undef, tmps.getD u undef, tmps.getD v undef, tmps.getD x undef]) w := by
  simp [results, h, go_sem]
/-- What nat.scan tells of the digits that begin at p. -/
def ScanPost (w w' : World) (rb p : Nat) (s : ByteArray) (enod : Value) (e : Ending) : Prop :=
  ∃ (k : Nat) (z : Value) (xs : List Int) (err : Value), e = .returned (.tuple #[z, .int .i64 10, .int .i64 k, err]) ∧ (k = 0 → err = enod) ∧ (0 < k → err = .nilIface) ∧ NatO w' w.heap.size z xs ∧ Words xs ∧ nrm xs = xs ∧ (xs = [] → z = .slice none 0 0) ∧
    val xs = decV (((bs s).drop p).take k) ∧ (∀ c ∈ ((bs s).drop p).take k, isDig c = true) ∧ p + k ≤ s.size ∧ (∀ h : p + k < s.size, isDig (s[p + k]) = false) ∧ Rd w' rb s (p + k) ∧ w.grownBy w' (some rb) ∧ xs.length ≤ k + 1
theorem scanPost_zero {w w' : World} {rb p : Nat} {s : ByteArray} {enod z : Value} {xs : List Int} {di : Int} (HS : Sc w w' rb p s z xs 0 0 di) (hR : Rd w' rb s (p + 0)) (hn : ∀ h : p + 0 < s.size, isDig (s[p + 0]) = false) :
    ScanPost w w' rb p s enod (.returned (.tuple #[z, .int .i64 10, .int .i64 0, enod])) := by
  have hl : xs = [] := List.eq_nil_of_length_eq_zero (by have := HS.len; omega)
  exact ⟨0, z, xs, enod, rfl, fun _ => rfl, fun h => absurd h (by omega), HS.own, HS.wds, HS.nz, HS.nil, by subst hl; rfl, HS.dig, HS.pk, hn, hR, HS.grown, by have := HS.len; omega⟩
theorem scanPost_whole {w w' : World} {rb p k : Nat} {s : ByteArray} {enod z : Value} {xs : List Int} {di : Int} (HS : Sc w w' rb p s z xs k 0 di) (hk : 0 < k) (hR : Rd w' rb s (p + k)) (hn : ∀ h : p + k < s.size, isDig (s[p + k]) = false) :
    ScanPost w w' rb p s enod (.returned (.tuple #[z, .int .i64 10, .int .i64 k, .nilIface])) := by
  refine ⟨k, z, xs, .nilIface, rfl, fun h => absurd h (by omega), fun _ => rfl, HS.own, HS.wds, HS.nz, HS.nil, ?_, HS.dig, HS.pk, hn, hR, HS.grown, by have := HS.len; omega⟩
  have h := HS.vl
  have h1 := HS.di1
  have h0 := HS.di0
  rw [ten_zero] at h h1
  omega
theorem scanPost_rest {w w1 w' : World} {rb p k j : Nat} {s : ByteArray} {enod z z1 : Value} {xs zs : List Int} {di : Int} (HS : Sc w w1 rb p s z xs k j di) (hk : 0 < k) (hR : Rd w1 rb s (p + k)) (hn : ∀ h : p + k < s.size, isDig (s[p + k]) = false)
    (hO : NatO w' w.heap.size z1 zs) (hw : Words zs) (hnz : nrm zs = zs) (hv : val zs = val xs * ten j + di) (hl : zs.length ≤ xs.length + 1) (hnil : zs = [] → z1 = .slice none 0 0) (hg : w1.grownBy w' z.ownBlock) :
    ScanPost w w' rb p s enod (.returned (.tuple #[z1, .int .i64 10, .int .i64 k, .nilIface])) := by
  refine ⟨k, z1, zs, .nilIface, rfl, fun h => absurd h (by omega), fun _ => rfl, hO, hw, hnz, hnil, ?_, HS.dig, HS.pk, hn, rd_keep hR hg (by intro e; have := (HS.own.lt rb e).1; have := HS.rb0; omega), ?_, by have := HS.len; omega⟩
  · rw [hv, HS.vl]
  · refine ⟨hg.os.trans HS.grown.os, hg.tape.trans HS.grown.tape, hg.output.trans HS.grown.output, Nat.le_trans HS.grown.size hg.size, fun i hi hne => ?_⟩
    rw [hg.block i (Nat.lt_of_lt_of_le hi HS.grown.size) (fun e => by have := (HS.own.lt i e.symm).1; omega), HS.grown.block i hi hne]
theorem cell8 {w w1 : World} {rb : Nat} {v : Value} (h : w.cell? ⟨8, 0, none⟩ = some v) (hg : w.grownBy w1 (some rb)) (hrb : 20 ≤ rb) : w1.cell? ⟨8, 0, none⟩ = some v :=
  hg.cell h (by intro e; injection e with e; simp at e; omega)
theorem eq_nil_eof (a : Addr) (w : World) : (binOp .eql 35 .nilIface (.iface 364 (.pointer (some a)))).run Tryz.prog w = .ok (.bool false) w :=
  run_eql_iface_nil_left w 364 _ (ms := #[("Error", 159)]) (by kernel_rfl)
theorem eq_eof_eof (a : Addr) (w : World) : (binOp .eql 35 (.iface 364 (.pointer (some a))) (.iface 364 (.pointer (some a)))).run Tryz.prog w = .ok (.bool true) w := by
  obtain ⟨i, hi⟩ : ∃ i, Tryz.prog.info? 364 = some i := Option.isSome_iff_exists.1 (by kernel_rfl)
  obtain ⟨j, hj⟩ : ∃ j, Tryz.prog.info? 392 = some j := Option.isSome_iff_exists.1 (by kernel_rfl)
  have hc : i.comparable = true := by
    have h : (Tryz.prog.info? 364).map (·.comparable) = some true := by kernel_rfl
    rw [hi] at h
    simpa using h
  exact run_eql_iface_ptr_same w a (ms := #[("Error", 159)]) (te := 392) (by kernel_rfl) (by kernel_rfl) hi hc hj

set_option maxRecDepth 100000 in
set_option maxHeartbeats 4000000 in
theorem scan_any (rb p : Nat) (s : ByteArray) (w : World) (a : Addr) (enod : Value) (h : Rd w rb s p) (hp : p ≤ s.size) (heof : w.cell? ⟨3, 0, none⟩ = some (.iface 364 (.pointer (some a)))) (henod : w.cell? ⟨8, 0, none⟩ = some enod) (hrb : 20 ≤ rb) (hs : s.size ≤ 1048576) :
    Calls Tryz.prog 135 #[.slice none 0 0, .iface 150 (.pointer (some ⟨rb, 0, none⟩)), .int .i64 10, .bool false] w fun e w' => ScanPost w w' rb p s enod e := by
  have m1 := method_read ⟨rb, 0, none⟩
  have m2 := method_unread ⟨rb, 0, none⟩
  have HR := Lib.hid h
  have HE := Lib.hid heof
  have HN8 := Lib.hid henod
  have hrs : rb < w.heap.size := (rd_cells h).2.2.2.2.2
  clear h heof henod
  go_enter Tryz.func135, Tryz.ntmps135
  go_upto_block 2 with (first
    | (go_at_call 360; refine (readByte_look rb p s _ a HR.out hp HE.out hrb (by omega)).mono ?_; rintro e w1 ⟨c1, err1, rfl, hL1, hG1⟩; have HL1 := Lib.hid hL1; have HG1 := Lib.hid hG1; clear hL1 hG1)
    | (go_at_call 150; refine (maxPow10 _).mono ?_; rintro e w2 ⟨rfl, rfl⟩))
  go_cut [0, 3, 10, 11, 13, 14, 20, 21, 22] (fun z fr cn er pr is d i dp wr => ∃ (k j : Nat) (xs : List Int) (di : Int), fr = .bool false ∧ is = .bool false ∧ dp = .int .i64 (-1) ∧
      k ≤ s.size ∧ j < 19 ∧ 0 ≤ di ∧ di ≤ 999999999999999999 ∧ cn = .int .i64 k ∧ i = .int .i64 j ∧ d = .int .u64 di ∧ pr = .int .i32 (pv k) ∧ Hid (Sc w wr rb p s z xs k j di) ∧ Hid (Rd wr rb s (p + k)) ∧ Hid (∀ h : p + k < s.size, isDig (s[p + k]) = false) ∧ (er = .nilIface ∨ er = .iface 364 (.pointer (some a))))
  case first =>
    go_wp2_with fail
    go_loopw [0, 3, 10, 11, 13, 14, 15, 20, 21, 22, 23] (fun z fr cn er pr is ch d i dp _ wr => ∃ (k j : Nat) (xs : List Int) (c di : Int), fr = .bool false ∧ is = .bool false ∧ dp = .int .i64 (-1) ∧
        k ≤ s.size ∧ j < 19 ∧ 0 ≤ di ∧ di ≤ 999999999999999999 ∧ cn = .int .i64 k ∧ i = .int .i64 j ∧ d = .int .u64 di ∧ pr = .int .i32 (pv k) ∧ ch = .int .u8 c ∧ Hid (Sc w wr rb p s z xs k j di) ∧ Hid (Look wr rb s (p + k) (.iface 364 (.pointer (some a))) er c))
      (fun _ _ cn er _ _ _ _ _ _ _ _ => 2 * (s.size - (intOf cn).toNat) + (match er with | .nilIface => 1 | _ => 0))
    case atStart => exact ⟨0, 0, [], c1, 0, rfl, rfl, rfl, by omega, by omega, by omega, by omega, rfl, rfl, rfl, rfl, rfl, sc_start w _ rb p s hp HG1.out hrs, HL1.out⟩
    case round =>
      obtain ⟨k, j, xs, c, di, rfl, rfl, rfl, hk, hj, hd0, hd1, rfl, rfl, rfl, rfl, rfl, HS, HL⟩ := hrel
      rcases HL.out with ⟨hlt, rfl, hc, hRd⟩ | ⟨hje, rfl, hc, hRd⟩
      · have HRD := Lib.hid hRd
        clear hRd HL
        have hpk : p + k ≤ s.size := HS.out.pk
        by_cases hdig : isDig (s[p + k]'hlt) = true
        · have hr := dig_rng hdig
          have hc0 : 48 ≤ c := by omega
          have hc9 : c ≤ 57 := by omega
          have hca : ((c : Int) == 46) = false := by rw [beq_eq_false_iff_ne]; omega
          have hcb : ((c : Int) == 95) = false := by rw [beq_eq_false_iff_ne]; omega
          have HC := Lib.hid hc; have HD := Lib.hid hdig
          clear hc hdig hr
          by_cases hj18 : j = 18
          · have hji : ((j : Int) + 1 == 19) = true := by rw [beq_iff_eq]; omega
            have HS18 : Hid (Sc w wr rb p s u0 xs k 18 di) := by have := HS.out; rw [hj18] at this; exact this
            clear hj18
            go_wp2_with (first
              | (go_at_call 151; go_loud (refine (mulAddWW_step w.heap.size u0 xs (k + 5) 10000000000000000000 _ _ HS.out.own HS.out.nil HS.out.cap (by omega) HS.out.grown.size HS.out.wds HS.out.nz (by omega) (by unfold BW; omega) (by omega) (by unfold BW; omega)).mono ?_); rintro e w3 ⟨z3, zs, rfl, b1, b2, b3, b4, b5, b6, b7, b8⟩; rw [HC.out] at b4; have HS3 := Lib.hid (HS18.out.full hlt HD.out b1 b2 b3 b4 b5 b6 b7 b8); have HRD3 := Lib.hid (rd_keep HRD.out b8 (by intro e; have := (HS18.out.own.lt rb e).1; omega)); clear b1 b2 b3 b4 b5 b6 b7 b8)
              | (go_at_call 360; go_loud (refine (readByte_look rb (p + (k + 1)) s _ a HRD3.out (by omega) (cell3 HE.out HS3.out.grown hrb) hrb (by omega)).mono ?_); rintro e w4 ⟨c4, err4, rfl, hL4, hG4⟩; have HL4 := Lib.hid hL4; have HS4 := Lib.hid (HS3.out.read hG4); clear hL4 hG4))
            go_roundw
            case rel => exact ⟨k + 1, 0, zs, c4, 0, rfl, rfl, rfl, by omega, by omega, by omega, by omega, by go_num, rfl, rfl, by rw [pv_succ], rfl, HS4, HL4⟩
            case measure => simp [intOf]; split <;> omega
          · have hji : ((j : Int) + 1 == 19) = false := by rw [beq_eq_false_iff_ne]; omega
            have HS3 := Lib.hid (HS.out.digit hlt HD.out (by omega))
            rw [← HC.out] at HS3
            have hd2 := HS3.out.di1
            have hd3 : di * 10 + (c - 48) ≤ 999999999999999999 := by
              have := ten_mono (j := j + 1) (k := 18) (by omega)
              have e : ten 18 = 1000000000000000000 := by decide
              omega
            clear hd2
            go_wp2_with (first
              | (go_at_call 360; go_loud (refine (readByte_look rb (p + (k + 1)) s _ a HRD.out (by omega) (cell3 HE.out HS3.out.grown hrb) hrb (by omega)).mono ?_); rintro e w4 ⟨c4, err4, rfl, hL4, hG4⟩; have HL4 := Lib.hid hL4; have HS4 := Lib.hid (HS3.out.read hG4); clear hL4 hG4))
            go_roundw
            case rel => exact ⟨k + 1, j + 1, xs, c4, _, rfl, rfl, rfl, by omega, by omega, by omega, hd3, by go_num, by go_num, rfl, by rw [pv_succ], rfl, HS4, HL4⟩
            case measure => simp [intOf]; split <;> omega
        · have hnd : isDig (s[p + k]'hlt) = false := by simpa using hdig
          have HC := Lib.hid hc
          have HND : Hid (∀ h : p + k < s.size, isDig (s[p + k]) = false) := fun _ => hnd
          have hcr : 0 ≤ c ∧ c ≤ 255 := by have := UInt8.toNat_lt (s[p + k]'hlt); omega
          have hnr : c < 48 ∨ 57 < c := by
            have h1 := hnd
            unfold isDig at h1
            rw [Bool.and_eq_false_iff, decide_eq_false_iff_not, decide_eq_false_iff_not] at h1
            omega
          obtain ⟨hcr0, hcr1⟩ := hcr
          clear hc hdig hnd
          have hcases : (c = 46 ∨ c = 95 ∨ (c < 48 ∧ c ≠ 46) ∨ (57 < c ∧ c < 65) ∨ (65 ≤ c ∧ c ≤ 90) ∨ (90 < c ∧ c < 97 ∧ c ≠ 95) ∨ (97 ≤ c ∧ c ≤ 122) ∨ 122 < c) := by omega
          clear hnr
          rcases hcases with rfl | rfl | ⟨hq1, hq2⟩ | ⟨hq1, hq2⟩ | ⟨hq1, hq2⟩ | ⟨hq1, hq2, hq3⟩ | ⟨hq1, hq2⟩ | hq1
          all_goals
            try have hca : ((c : Int) == 46) = false := by rw [beq_eq_false_iff_ne]; omega
            try have hcb : ((c : Int) == 95) = false := by rw [beq_eq_false_iff_ne]; omega
            go_wp2_with (first | (go_at_call 361; refine (unreadByte_any rb s (p + k) _ HRD.out hlt (by omega)).mono ?_; rintro e w2 ⟨rfl, hR2, hG2⟩; have HR2 := Lib.hid hR2; have HS2 := Lib.hid (HS.out.read hG2); clear hR2 hG2))
            go_meet
            exact ⟨k, j, xs, di, rfl, rfl, rfl, hk, hj, hd0, hd1, rfl, rfl, rfl, rfl, HS2, HR2, HND, .inl rfl⟩
      · have HC := Lib.hid hc; have HJ := Lib.hid hje
        have HND : Hid (∀ h : p + k < s.size, isDig (s[p + k]) = false) := fun h => absurd h (by omega)
        have HRD : Hid (Rd wr rb s (p + k)) := by have h := hRd; rw [← hje] at h; exact h
        clear hc hRd hje HL
        go_wp2_with fail
        go_meet
        exact ⟨k, j, xs, di, rfl, rfl, rfl, hk, hj, hd0, hd1, rfl, rfl, rfl, rfl, HS, HRD, HND, .inr rfl⟩
  case rest =>
    obtain ⟨k, j, xs, di, rfl, rfl, rfl, hk, hj, hd0, hd1, rfl, rfl, rfl, rfl, HS, HRD, HND, her⟩ := hcut
    have q0 := eq_nil_eof a
    have q1 := eq_eof_eof a
    have c3 := cell3 HE.out HS.out.grown hrb
    have c8 := cell8 HN8.out HS.out.grown hrb
    have hjk := HS.out.ik
    by_cases hk0 : k = 0
    · subst hk0
      have hj0 : j = 0 := by omega
      subst hj0
      have q2 : ((pv 0 : Int) == 95) = false := by decide
      have HF := Lib.hid (scanPost_zero (enod := enod) HS.out HRD.out HND.out)
      rcases her with rfl | rfl
      all_goals
        go_wp2_with fail
        (try simp only [Exit.inBlock, Exit.then])
        refine bodyPost_ret (results_tmp4 rfl _ _ _) rfl ?_
        exact HF.out
    · have q2 : ((pv k : Int) == 95) = false := by rw [beq_eq_false_iff_ne]; exact pv_rng k
      have q3 : ((k : Int) == 0) = false := by rw [beq_eq_false_iff_ne]; omega
      by_cases hj0 : j = 0
      · subst hj0
        have HF := Lib.hid (scanPost_whole (enod := enod) HS.out (by omega) HRD.out HND.out)
        rcases her with rfl | rfl
        all_goals
          go_wp2_with fail
          (try simp only [Exit.inBlock, Exit.then])
          refine bodyPost_ret (results_tmp4 rfl _ _ _) rfl ?_
          exact HF.out
      · have hjp : 0 < j := by omega
        have hkp : 0 < k := by omega
        clear hj0 hk0
        have Q5 := Lib.hid (ten_pos j)
        have Q6 : Hid (ten j < BW) := by
          have := ten_mono (j := j) (k := 18) (by omega)
          have e : ten 18 = 1000000000000000000 := by decide
          show ten j < BW
          unfold BW; omega
        have Q7 := Lib.hid HS.out.grown.size
        rcases her with rfl | rfl
        all_goals
          go_wp2_with (first | (go_at_call 152; refine (pow10_any j _ (by omega)).mono ?_; rintro e w5 ⟨rfl, rfl⟩) | (go_at_call 151; go_loud (refine (mulAddWW_step w.heap.size _ xs (k + 5) _ _ _ HS.out.own HS.out.nil HS.out.cap (by omega) Q7.out HS.out.wds HS.out.nz (by have := Q5.out; omega) Q6.out (by omega) (by unfold BW; omega)).mono ?_); rintro e w6 ⟨z6, zs, rfl, b1, b2, b3, b4, b5, b6, b7, b8⟩; have HF := Lib.hid (scanPost_rest (enod := enod) HS.out (by omega) HRD.out HND.out b1 b2 b3 b4 b5 b6 b8); clear b1 b2 b3 b4 b5 b6 b7 b8))
          (try simp only [Exit.inBlock, Exit.then])
          refine bodyPost_ret (results_tmp4 rfl _ _ _) rfl ?_
          exact HF.out

end Go.Proofs.YtoofphhfealcaaaGreatDoor
