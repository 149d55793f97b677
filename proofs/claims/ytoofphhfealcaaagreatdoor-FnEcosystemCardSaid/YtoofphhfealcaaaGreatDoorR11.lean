/-
  WALKS: the long division's digits (divBasic).
-/
import Derived.Test.YtoofphhfealcaaaGreatDoorR10
import Derived.StillTailTactics
namespace Go.Proofs.YtoofphhfealcaaaGreatDoor
open Go.RowKit

/-- A part of a number written anew. -/
theorem natB_seg {w w' : World} {b c o : Nat} {A S S' Z : List Int} (h : NatB w b c (A ++ (S ++ Z))) (hs : Seg w w' b o S') (ho : o = A.length) (hl : S'.length = S.length) : NatB w' b c (A ++ (S' ++ Z)) := by
  subst ho
  obtain ⟨cur, h1, h2⟩ := h.blk
  obtain ⟨cur', h3, h4⟩ := hs.row cur 156 h1
  have hfit := h.fit
  refine ⟨⟨cur', h3, by omega⟩, fun j hj => ?_, by simpa [hl] using hfit⟩
  simp only [List.length_append] at hj hfit
  rw [Nat.zero_add]
  by_cases h5 : j < A.length
  · rw [hs.out ⟨b, j, none⟩ (natB_lt h) (fun _ _ => .inl h5), natB_cell h (by simp only [List.length_append]; omega), List.getElem_append_left h5, List.getElem_append_left h5]
  · by_cases h6 : j < A.length + S.length
    · have h7 := hs.rds (j - A.length) (by omega)
      rw [show A.length + (j - A.length) = j by omega] at h7
      rw [h7, List.getElem_append_right (by omega), List.getElem_append_left (by omega)]
    · rw [hs.out ⟨b, j, none⟩ (natB_lt h) (fun _ _ => .inr (by show _ ≤ j; omega)), natB_cell h (by simp only [List.length_append]; omega), List.getElem_append_right (by omega), List.getElem_append_right (by omega), List.getElem_append_right (by omega), List.getElem_append_right (by omega)]
      simp only [hl]
theorem natB_sub {w : World} {b c : Nat} {A S Z : List Int} (h : NatB w b c (A ++ (S ++ Z))) : Reads w b A.length S := fun j hj => by
  rw [natB_cell h (by simp only [List.length_append]; omega), List.getElem_append_right (by omega), List.getElem_append_left (by omega)]
  congr 2
  simp
theorem sv_zero : ∀ (T : List Int), Words T → svL T (List.replicate T.length 0) 0 = T ∧ svC T (List.replicate T.length 0) 0 = 0
  | [], _ => ⟨rfl, rfl⟩
  | x :: r, h => by
    have hx := h x (by simp)
    have ih := sv_zero r (fun y hy => h y (by simp [hy]))
    have e1 : sLo x 0 0 = x := by unfold sLo; rw [Int.emod_eq_of_lt (by omega) (by omega)]; omega
    have e2 : sHi x 0 0 = 0 := by unfold sHi; rw [if_neg (by omega)]
    simp only [List.length_cons, List.replicate_succ, svL, svC, e1, e2, ih]
    exact ⟨trivial, trivial⟩
theorem mv_zero : ∀ (V : List Int), mvL V 0 0 = List.replicate V.length 0 ∧ mvC V 0 0 = 0
  | [] => ⟨rfl, rfl⟩
  | x :: r => by
    have ih := mv_zero r
    have e1 : mLo x 0 0 = 0 := by simp [mLo]
    have e2 : mHi x 0 0 = 0 := by simp [mHi]
    simp only [mvL, mvC, e1, e2, ih, List.length_cons, List.replicate_succ]
    exact ⟨trivial, trivial⟩
theorem seg_room {w w' : World} {b o zb zo n : Nat} {l : List Int} (h : Seg w w' b o l) (hr : Room w zb zo n) : Room w' zb zo n := fun j hj => by
  obtain ⟨⟨u, hu⟩, hf⟩ := hr j hj
  refine ⟨?_, by rw [h.frz]; exact hf⟩
  by_cases hin : zb = b ∧ o ≤ zo + j ∧ zo + j < o + l.length
  · obtain ⟨rfl, h1, h2⟩ := hin
    have := h.rds (zo + j - o) (by omega)
    rw [show o + (zo + j - o) = zo + j by omega] at this
    exact ⟨_, this⟩
  · refine ⟨u, ?_⟩
    rw [h.out ⟨zb, zo + j, none⟩ (World.block_lt_of_cell? w _ hu) (fun e _ => by
      have : zb = b := e
      show zo + j < o ∨ _ ≤ zo + j
      omega)]
    exact hu
theorem seg_lift {w w' : World} {b o : Nat} {l : List Int} (h : Seg w w' b o l) {m : List Nat} (hb : b ∈ m) : Kp m w w' :=
  ⟨h.kp.os, h.kp.tape, h.kp.output, h.kp.size, fun k hk hn => h.kp.block k hk (by simp only [List.mem_singleton]; rintro rfl; exact hn hb)⟩
theorem seg_over {w w1 w2 : World} {b o o2 : Nat} {l1 l2 F : List Int} (h1 : Seg w w1 b o l1) (h2 : Seg w1 w2 b o2 l2) (ho : o ≤ o2) (ho2 : o2 + l2.length ≤ o + l1.length) (hF : F.length = l1.length) (hr : Reads w2 b o F) : Seg w w2 b o F := by
  refine ⟨h1.kp.trans h2.kp, hr, fun p hp hpo => ?_, fun cur t hc => ?_, fun p => (h2.frz p).trans (h1.frz p)⟩
  · rw [h2.out p (Nat.lt_of_lt_of_le hp h1.kp.size) (fun e1 e2 => by have := hpo e1 e2; omega), h1.out p hp (fun e1 e2 => by have := hpo e1 e2; omega)]
  · obtain ⟨c1, a1, a2⟩ := h1.row cur t hc
    obtain ⟨c2, b1, b2⟩ := h2.row c1 t a1
    exact ⟨c2, b1, by omega⟩
theorem stk_seg {w w' : World} {sb si g M o : Nat} {l : List Int} (h : StkAt w sb [si, g] M) (hs : Seg w w' g o l) : StkAt w' sb [si, g] M := by
  cases h with
  | row si b L c cur h h2 h3 hc hL h63 hd hd2 hd3 =>
    obtain ⟨cur', h4, h5⟩ := hs.row cur 156 h3
    have e1 := hs.kp.block sb (Array.getElem?_eq_some_iff.1 h).1 (by simpa using hd2)
    have e2 := hs.kp.block si (Array.getElem?_eq_some_iff.1 h2).1 (by simpa using hd3)
    exact .row si g M c cur' (by rw [e1]; exact h) (by rw [e2]; exact h2) h4 (by omega) hL h63 hd hd2 hd3
/-- The row of the quotient: from k on its digits stand. -/
structure QRow (w : World) (qb qc k : Nat) (Qs : List Int) : Prop where
  blk : ∃ cur, w.heap[qb]? = some (.cells cur 156 (0, 0)) ∧ cur.size = qc
  rds : Reads w qb k Qs
  fit : k + Qs.length ≤ qc
/-- What each round of the division keeps: k words are still to be divided. -/
structure DbI (w1 wr : World) (sb si nr ub uc qb qc vb vo g L m kk : Nat) (U V : List Int) (k : Nat) (T : List Int) : Prop where
  ex : ∃ A Qs, A.length = k ∧ Qs.length = m - k ∧ Words A ∧ Words Qs ∧ NatB wr ub uc (A ++ (T ++ List.replicate (m - k) 0)) ∧ QRow wr qb qc k Qs ∧ val A + BW ^ k * (val T + val V * val Qs) = val U
  tl : T.length = kk + 2
  wt : Words T
  lt : val T < val V
  kp : Kp [ub, qb, g] w1 wr
  rv : Reads wr vb vo V
  rm : Room wr g L (kk + 3)
  st : StkAt wr sb [si, g] (L + nr)
/-- What divBasic leaves. -/
def DbPost (w : World) (sb ub uc qb qc L m kk : Nat) (l : List Nat) (U V : List Int) (e : Ending) (w' : World) : Prop :=
  e = .returned (.tuple #[]) ∧ ∃ R Qs l', R.length = kk + 2 ∧ Words R ∧ NatB w' ub uc (R ++ List.replicate m 0) ∧ val R = val U % val V ∧ NatB w' qb qc Qs ∧ Qs.length = m ∧ Words Qs ∧ val Qs = val U / val V ∧
    StkAt w' sb l' L ∧ (∀ x ∈ l', x ∈ l ∨ w.heap.size ≤ x) ∧ Kp (ub :: qb :: sb :: l) w w'
set_option maxRecDepth 100000 in
set_option maxHeartbeats 8000000 in
theorem divBasic_any (qb qc sb ub uc vb vo vc m n kk L nr : Nat) (rec vn1 c0 : Int) (l : List Nat) (U V : List Int) (w : World)
    (hn : n = kk + 2) (hn5 : 5 ≤ n) (hn6 : n ≤ 1000) (hm : m ≤ 1000) (hVl : V.length = kk + 2) (hUl : U.length = m + n) (hV : Words V) (hU : Words U)
    (hS : StkAt w sb l L) (hL : L ≤ 1000) (hnr : bits .andNot .i64 (((n + 1 : Nat) : Int) + 3) 3 = (nr : Int)) (hnr1 : n + 1 ≤ nr) (hnr2 : nr ≤ 2000)
    (hUB : NatB w ub uc U) (hQ : ∃ cur, w.heap[qb]? = some (.cells cur 156 (0, 0)) ∧ cur.size = qc) (hmq : m ≤ qc) (hRV : Reads w vb vo V) (hvl : vb ∈ l → vo + n ≤ L)
    (d1 : vb ≠ ub) (d2 : vb ≠ qb) (d3 : ub ≠ qb) (d4 : ub ∉ sb :: l) (d5 : qb ∉ sb :: l)
    (hvn1 : ∀ h : kk + 1 < V.length, V[kk + 1] = vn1) (hc0 : ∀ h : m + kk + 1 < U.length, U[m + kk + 1] = c0) (hrec : Rec vn1 rec) (hrc : ∀ W, Calls Tryz.prog 240 #[.int .u64 vn1] W fun e w' => e = .returned (.int .u64 rec) ∧ w' = W)
    (htop : c0 < vn1) (hlt : val (U.drop m) < val V) :
    Calls Tryz.prog 237 #[.slice (some ⟨qb, 0, none⟩) m qc, .pointer (some ⟨sb, 0, none⟩), .slice (some ⟨ub, 0, none⟩) (m + n) uc, .slice (some ⟨vb, vo, none⟩) n vc] w (DbPost w sb ub uc qb qc L m kk l U V) := by
  have HS := Lib.hid hS; have HUB := Lib.hid hUB; have HQ := Lib.hid hQ; have HRV := Lib.hid hRV; have HREC := Lib.hid hrec; have HRC := Lib.hid hrc
  have hv1 : w.cell? ⟨vb, vo + (n - 1), none⟩ = some (.int .u64 vn1) := by
    have := hRV (kk + 1) (by omega)
    rw [hvn1] at this
    rw [show n - 1 = kk + 1 by omega]
    exact this
  have HV1 := Lib.hid hv1
  clear hUB hQ hRV hrec hrc hv1
  have hsn := stackNat_any sb L (n + 1) nr l w hS (by omega) hnr hnr1 (by omega)
  rw [show ((n + 1 : Nat) : Int) = (n : Int) + 1 by omega] at hsn
  have HSN := Lib.hid hsn
  have HNK := Lib.hid hn; have HVL := Lib.hid hVl; have HUL := Lib.hid hUl; have HV := Lib.hid hV; have HU := Lib.hid hU; have HLT := Lib.hid hlt; have HVN := Lib.hid hvn1; have HC0 := Lib.hid hc0; have HVO := Lib.hid hvl; have HD4 := Lib.hid d4; have HD5 := Lib.hid d5
  clear hsn hnr hS hn hVl hUl hV hU hlt hvn1 hc0 hvl d4 d5
  go_enter_defers Tryz.func237, Tryz.ntmps237
  go_upto_region 3 with (go_at_call 230; refine (save_any sb L l _ HS.out).mono ?_; rintro e w' ⟨rfl, rfl⟩)
  go_upto_region 4 with (go_at_call 231; refine HSN.out.mono ?_; rintro e w1 ⟨si, g, rfl, hN⟩; have HN := Lib.hid hN; clear hN)
  have HV1' : Hid (w1.cell? ⟨vb, vo + (n - 1), none⟩ = some (.int .u64 vn1)) := by
    have := HN.out.rds vb vo V HRV.out (fun h => by have := HVO.out h; have := HVL.out; have := HNK.out; omega) (kk + 1) (by have := HVL.out; omega)
    rw [HVN.out] at this
    show _ = _
    rw [show n - 1 = kk + 1 by have := HNK.out; omega]
    exact this
  clear HV1
  have hv1 := HV1'.out
  go_upto_region 6 with (go_at_call 240; refine (HRC.out _).mono ?_; rintro e w2 ⟨rfl, hw⟩; obtain rfl := hw.symm)
  clear hv1
  go_wp2_with fail
  have hub : NatB w1 ub uc U := natB_kp HUB.out HN.out.kp HD4.out
  have hvr : Reads w1 vb vo V := HN.out.rds vb vo V HRV.out (fun h => by have := HVO.out h; have := HVL.out; have := HNK.out; omega)
  have hgv : vb = g → vo + n ≤ L := fun h => by
    have h0 := reads_lt HRV.out (by have := HVL.out; omega)
    rcases HN.out.new g (by simp) with h1 | h1
    · exact HVO.out (by rw [h]; exact h1)
    · omega
  have hgu : g ≠ ub := fun h => by
    rcases HN.out.new g (by simp) with h1 | h1
    · exact HD4.out (by rw [← h]; simp [h1])
    · have := natB_lt HUB.out
      omega
  have hgq : g ≠ qb := fun h => by
    rcases HN.out.new g (by simp) with h1 | h1
    · exact HD5.out (by rw [← h]; simp [h1])
    · obtain ⟨cur, h2, _⟩ := HQ.out
      have := (Array.getElem?_eq_some_iff.1 h2).1
      omega
  have hqr : ∃ cur, w1.heap[qb]? = some (.cells cur 156 (0, 0)) ∧ cur.size = qc := by
    obtain ⟨cur, h2, h3⟩ := HQ.out
    exact ⟨cur, by rw [HN.out.kp.block qb (Array.getElem?_eq_some_iff.1 h2).1 HD5.out]; exact h2, h3⟩
  have hus : ub ∉ [sb, si, g] ∧ qb ∉ [sb, si, g] := by
    have h1 := natB_lt HUB.out
    obtain ⟨cur, h2, _⟩ := HQ.out
    have h3 := (Array.getElem?_eq_some_iff.1 h2).1
    have h4 := HN.out.new si (by simp)
    have h5 := HD4.out
    have h6 := HD5.out
    simp only [List.mem_cons, not_or] at h5 h6
    refine ⟨?_, ?_⟩ <;> simp only [List.mem_cons, List.mem_nil_iff, or_false, not_or]
    · refine ⟨h5.1, ?_, fun h => hgu h.symm⟩
      rintro rfl
      rcases h4 with h4 | h4
      · exact h5.2 h4
      · omega
    · refine ⟨h6.1, ?_, fun h => hgq h.symm⟩
      rintro rfl
      rcases h4 with h4 | h4
      · exact h6.2 h4
      · omega
  have HUS := Lib.hid hus
  clear hus
  have HUB1 := Lib.hid hub; have HVR := Lib.hid hvr; have HGV := Lib.hid hgv; have HGU := Lib.hid hgu; have HGQ := Lib.hid hgq; have HQR := Lib.hid hqr
  clear hub hvr hgv hgu hgq hqr
  have hvp : 0 < vn1 := by have := HREC.out.top; omega
  go_loopw [13, 14] (fun uj j wr => ∃ k : Nat, j = .int .i64 ((k : Int) - 1) ∧ ((k = m + 1 ∧ uj = .int .u64 0 ∧ w1 = wr) ∨ (k ≤ m ∧ ∃ (T : List Int) (uv : Int), uj = .int .u64 uv ∧ Hid ((∀ h : kk + 1 < T.length, T[kk + 1] = uv) ∧ DbI w1 wr sb si nr ub uc qb qc vb vo g L m kk U V k T)))) (fun _ j _ => (intOf j + 1).toNat)
  case atStart => exact ⟨m + 1, by congr 1; omega, .inl ⟨rfl, rfl, rfl⟩⟩
  case round =>
    obtain ⟨k, rfl, ⟨rfl, rfl, rfl⟩ | ⟨hkm, T, uv, rfl, HI⟩⟩ := hrel
    · rw [show ((m + 1 : Nat) : Int) - 1 = (m : Int) by omega]
      have hnk := HNK.out; have hul := HUL.out; have hvl := HVL.out
      have hu1 : w1.cell? ⟨ub, m + n - 1, none⟩ = some (.int .u64 c0) := by
        have := natB_cell HUB1.out (k := m + kk + 1) (by omega)
        rw [HC0.out] at this
        rw [show m + n - 1 = m + kk + 1 by omega]
        exact this
      obtain ⟨c2, hu2, hc20, hc21⟩ : ∃ c2, w1.cell? ⟨ub, m + n - 2, none⟩ = some (.int .u64 c2) ∧ 0 ≤ c2 ∧ c2 < BW := by
        have h1 := words_get HU.out (m + kk) (by omega)
        exact ⟨U[m + kk], by rw [show m + n - 2 = m + kk by omega]; exact natB_cell HUB1.out (by omega), h1.1, h1.2⟩
      obtain ⟨vn2, hv2, hvn0, hvnB⟩ : ∃ vn2, w1.cell? ⟨vb, vo + (n - 2), none⟩ = some (.int .u64 vn2) ∧ 0 ≤ vn2 ∧ vn2 < BW := by
        have h1 := words_get HV.out kk (by omega)
        exact ⟨V[kk], by rw [show n - 2 = kk by omega]; exact HVR.out kk (by omega), h1.1, h1.2⟩
      have hc0r : 0 ≤ c0 ∧ c0 < BW := by
        have h1 := words_get HU.out (m + kk + 1) (by omega)
        rw [HC0.out] at h1
        exact h1
      have hneq : ((0 : Int) == vn1) = false := by rw [beq_eq_false_iff_ne]; omega
      have hd0 : (0 * BW + c0) / vn1 = 0 := by rw [Int.zero_mul, Int.zero_add]; exact Int.ediv_eq_zero_of_lt hc0r.1 htop
      have hd1 : (0 * BW + c0) % vn1 = c0 := by rw [Int.zero_mul, Int.zero_add]; exact Int.emod_eq_of_lt hc0r.1 htop
      have hm0 : mHi 0 vn2 0 = 0 := by simp [mHi]
      have hm1 : mLo 0 vn2 0 = 0 := by simp [mLo]
      have HD0 := Lib.hid hd0; have HD1 := Lib.hid hd1; have HM0 := Lib.hid hm0; have HM1 := Lib.hid hm1
      clear hd0 hd1 hm0 hm1 hnk hul hvl
      go_upto_region 14 with (go_at_call 241; refine (divWW_any 0 c0 vn1 rec _ HREC.out (by omega) (by omega) hc0r.1 hc0r.2).mono ?_; rintro e w2 ⟨rfl, hw⟩; obtain rfl := hw.symm; rw [HD0.out, HD1.out])
      go_upto_region 16 with (go_at_call 208; refine (mulWW_any 0 vn2 _ (by omega) bw_pos hvn0 hvnB).mono ?_; rintro e w2 ⟨rfl, rfl⟩; rw [HM0.out, HM1.out])
      go_upto_region 17 with fail
      refine wp_loop_rounds 1 ?_
      rw [rounds_succ]
      have hgt : false = decide (c0 * BW + c2 < 0 * BW + 0) := by
        have := Int.mul_nonneg hc0r.1 (Int.le_of_lt bw_pos)
        symm
        simp only [decide_eq_false_iff_not]
        omega
      have HGT := Lib.hid hgt
      clear hgt
      go_upto_region 24 with (go_at_call 271; refine (greater_any 0 0 c0 c2 false _ (by omega) bw_pos hc20 hc21 HGT.out).mono ?_; rintro e w2 ⟨rfl, rfl⟩)
      obtain ⟨z1, z2⟩ := mv_zero V
      have HMV := Lib.hid (mulAddVWW_seg g L (n + 1) vb vo vc n V 0 0 w1 (by have := HVL.out; have := HNK.out; omega) HV.out (by omega) bw_pos (by omega) bw_pos (by omega) HVR.out (fun j hj => HN.out.room j (by omega)) (by
        by_cases h : vb = g
        · exact .inr (.inr (HGV.out h))
        · exact .inl h))
      rw [z1, z2] at HMV
      have HZ1 := Lib.hid z1
      clear z1 z2
      go_upto_region 25 with (go_at_call 172; refine HMV.out.mono ?_; rintro e w2 ⟨rfl, hs⟩; have HS2 := Lib.hid hs; obtain ⟨⟨u2, hu2c⟩, hu2f⟩ := seg_room hs HN.out.room n (by omega); clear hs)
      have hs3 : Seg w1 (w2.setCell ⟨g, L + n, none⟩ (.int .u64 0)) g L (mvL V 0 0 ++ [0]) := by
        rw [HZ1.out]
        refine seg_snoc HS2.out ?_ (room_some HN.out.room (by omega)) 0
        rw [List.length_replicate]
        have := HVL.out; have := HNK.out
        omega
      rw [HZ1.out, ← List.replicate_succ'] at hs3
      have hlen : V.length = n := by have := HVL.out; have := HNK.out; omega
      rw [hlen] at hs3
      generalize w2.setCell ⟨g, L + n, none⟩ (.int .u64 0) = w3 at hs3 ⊢
      have hqn : w3.cell? ⟨g, L + n, none⟩ = some (.int .u64 0) := by
        have := hs3.rds n (by simp)
        simpa using this
      have HS3 := Lib.hid hs3
      clear hs3 hlen hu2c hu2f HS2 HZ1
      have hfit : m + n ≤ uc := by have := HUB1.out.fit; have := HUL.out; omega
      go_upto_region 28 with fail
      obtain ⟨mn, i1, i2, i3, i4⟩ : ∃ mn : Nat, IntKind.i64.wrap ((m : Int) + (n : Int)) = (mn : Int) ∧ mn ≤ uc ∧ m ≤ mn ∧ mn - m = n := ⟨m + n, by rw [IntKind.wrap_i64]; omega, by omega, by omega, by omega⟩
      have i5 : ¬ uc = m := by omega
      have i6 : (n : Int) ≤ (n : Int) + 1 := by omega
      go_still_tail 15, (by kernel_rfl)
      change wpList _ _ _ _ _ w3.drew
      have hT : (U.drop m).length = n := by rw [List.length_drop]; have := HUL.out; omega
      have hTm : (U.take m).length = m := by rw [List.length_take]; have := HUL.out; omega
      have hub3 : NatB w3 ub uc (U.take m ++ (U.drop m ++ [])) := by
        rw [List.append_nil, List.take_append_drop]
        exact natB_kp HUB1.out HS3.out.kp (by simp only [List.mem_singleton]; exact fun h => HGU.out h.symm)
      have hsv := subVV_seg ub m (uc - m) ub m (uc - m) g L (n + 1) n (U.drop m) (List.replicate n 0) w3.drew hT (by simp) (words_drop HU.out m) (words_zeros n) (by omega)
        (by have := natB_sub hub3; rw [hTm] at this; exact this)
        (fun j hj => by have h1 := HS3.out.rds j (by simp at hj ⊢; omega); simpa using h1)
        (fun j hj => natB_room hub3 (n := m + n) hfit (m + j) (by omega) |> fun h => by simpa using h)
        (.inr (.inl (Nat.le_refl _))) (.inl HGU.out)
      have hz := sv_zero (U.drop m) (words_drop HU.out m)
      rw [hT] at hz
      rw [hz.1, hz.2] at hsv
      have HSV := Lib.hid hsv; have HUB3 := Lib.hid hub3; have HT := Lib.hid hT; have HTM := Lib.hid hTm
      clear hsv hub3 hz hT hTm i1 i2 i3 i4 i5 i6 hqn hu1 hu2 hv2
      go_upto_region 29 with (go_at_call 272; refine HSV.out.mono ?_; rintro e w4 ⟨rfl, hs⟩; have HS4 := Lib.hid hs; clear hs)
      have hub4 : NatB w4 ub uc (U.take m ++ (U.drop m ++ [])) := natB_seg (natB_drewN HUB3.out 1) HS4.out HTM.out.symm rfl
      have hu4 : w4.cell? ⟨ub, m + n - 1, none⟩ = some (.int .u64 c0) := by
        rw [List.append_nil, List.take_append_drop] at hub4
        have h1 := natB_cell hub4 (k := m + kk + 1) (by have := HUL.out; have := HNK.out; omega)
        rw [HC0.out] at h1
        rw [show m + n - 1 = m + kk + 1 by have := HNK.out; omega]
        exact h1
      have HUB4 := Lib.hid hub4
      clear hub4
      go_wp2_with fail
      have HKP : Hid (Kp [ub, qb, g] w1 w4) := (seg_lift HS3.out (by simp)).trans ((Kp.refl _ w3).drewN 1 |>.trans (seg_lift HS4.out (by simp)))
      have HRV4 : Hid (Reads w4 vb vo V) := by
        have h1 : Reads w3 vb vo V := seg_reads HS3.out HVR.out (by
          by_cases h : vb = g
          · have h2 := HGV.out h
            have := HVL.out; have := HNK.out
            exact .inr (.inl (by omega))
          · exact .inl h)
        exact seg_reads HS4.out (w := w3.drew) h1 (.inl d1)
      have HRM4 : Hid (Room w4 g L (kk + 3)) := by
        have h1 := HN.out.room
        rw [show n + 1 = kk + 3 by have := HNK.out; omega] at h1
        have h2 : Room w3 g L (kk + 3) := seg_room HS3.out h1
        exact seg_room HS4.out (w := w3.drew) h2
      have HQ4 : Hid (QRow w4 qb qc m []) := by
        obtain ⟨cur, q1, q2⟩ := HQR.out
        refine ⟨⟨cur, ?_, q2⟩, reads_nil _ _ _, by simpa using hmq⟩
        have e1 := HS4.out.kp.block qb (Nat.lt_of_lt_of_le (Array.getElem?_eq_some_iff.1 q1).1 HS3.out.kp.size) (by simp only [List.mem_singleton]; exact fun h => d3 h.symm)
        have e2 := HS3.out.kp.block qb (Array.getElem?_eq_some_iff.1 q1).1 (by simp only [List.mem_singleton]; exact fun h => HGQ.out h.symm)
        rw [e1]
        exact e2.trans q1
      have HST4 : Hid (StkAt w4 sb [si, g] (L + nr)) := by
        have h1 := stk_seg HN.out.stk HS3.out
        have h2 : StkAt w3.drew sb [si, g] (L + nr) := stk_kp h1 ((Kp.refl [] w3).drewN 1) (by simp)
        exact stk_kp h2 HS4.out.kp (by
          have h3 := HUS.out.1
          intro x hx hx2
          simp only [List.mem_singleton] at hx2
          subst hx2
          exact h3 hx)
      refine ⟨⟨m, rfl, .inr ⟨Nat.le_refl _, U.drop m, c0, rfl, fun h => ?_, ⟨U.take m, [], HTM.out, by simp, words_take HU.out m, by intro z hz; simp at hz, ?_, HQ4.out, ?_⟩, by rw [HT.out, HNK.out], words_drop HU.out m, HLT.out, HKP.out, HRV4.out, HRM4.out, HST4.out⟩⟩, by simp [intOf] <;> omega⟩
      · have h1 := HC0.out (by have := HUL.out; have := HNK.out; omega)
        rw [← h1, List.getElem_drop]
        rfl
      · rw [Nat.sub_self]
        exact HUB4.out
      · have h1 := val_split U m (by have := HUL.out; omega)
        rw [h1]
        simp [val]
    · by_cases h0 : 0 < k
      · obtain ⟨j, rfl⟩ : ∃ j, k = j + 1 := ⟨k - 1, by omega⟩
        rw [show ((j + 1 : Nat) : Int) - 1 = (j : Int) by omega]
        obtain ⟨huv, ⟨A, Qs, x1, x2, x3, x4, x5, x6, x7⟩, i2, i3, i4, i5, i6, i7, i8⟩ := HI.out
        have hjA : j < A.length := by omega
        have hA : A = A.take j ++ [A[j]] := by
          have := List.take_succ_eq_append_getElem hjA
          rwa [List.take_of_length_le (by omega)] at this
        have hAr := x3 A[j] (List.getElem_mem hjA)
        have hAt : (A.take j).length = j := by rw [List.length_take]; omega
        have hAw := words_take x3 j
        generalize A.take j = A' at *
        generalize A[j] = a at *
        subst hA
        obtain ⟨S, hSd⟩ : ∃ S, S = a :: T := ⟨_, rfl⟩
        have hSl : S.length = kk + 3 := by rw [hSd, List.length_cons, i2]
        have hWS : Words S := by rw [hSd]; exact words_cons hAr i3
        have hVl := HVL.out
        have hnk := HNK.out
        have hGs : Gs V S kk hVl hSl := ⟨HV.out, hWS, by have h1 := HVN.out (by omega); have h2 := HREC.out.top; rw [h1]; unfold BW; omega, by
          rw [hSd, val]
          have h1 : BW * (val T + 1) ≤ BW * val V := Int.mul_le_mul_of_nonneg_left (by omega) (Int.le_of_lt bw_pos)
          rw [Int.mul_add, Int.mul_one] at h1
          rw [Int.mul_comm (val V)]
          omega⟩
        have hst : S[kk + 2] = uv := by
          have := huv (by omega)
          rw [← this]
          simp only [hSd, List.getElem_cons_succ]
        have hv1 : V[kk + 1] = vn1 := HVN.out (by omega)
        have x5' : NatB wr ub uc (A' ++ (S ++ List.replicate (m - (j + 1)) 0)) := by
          rw [hSd]
          simpa [List.append_assoc] using x5
        have hus : ∀ i (hi : i < S.length), wr.cell? ⟨ub, j + i, none⟩ = some (.int .u64 S[i]) := fun i hi => by
          have := natB_sub x5' i hi
          rwa [hAt] at this
        have hu1 : wr.cell? ⟨ub, j + n - 1, none⟩ = some (.int .u64 S[kk + 1]) := by
          rw [show j + n - 1 = j + (kk + 1) by omega]
          exact hus (kk + 1) (by omega)
        have hu2 : wr.cell? ⟨ub, j + n - 2, none⟩ = some (.int .u64 S[kk]) := by
          rw [show j + n - 2 = j + kk by omega]
          exact hus kk (by omega)
        have hv2 : wr.cell? ⟨vb, vo + (n - 2), none⟩ = some (.int .u64 V[kk]) := by
          rw [show n - 2 = kk by omega]
          exact i6 kk (by omega)
        have htl := gs_top hGs
        rw [hst, hv1] at htl
        have hs1 := words_get hWS (kk + 1) (by omega)
        have hs0 := words_get hWS kk (by omega)
        have hs2 := words_get hWS (kk + 2) (by omega)
        rw [hst] at hs2
        have hvr2 := words_get HV.out kk (by omega)
        have HGS : Hid (∃ (e1 : V.length = kk + 2) (e2 : S.length = kk + 3), Gs V S kk e1 e2) := ⟨hVl, hSl, hGs⟩
        -- what the refinement's walk needs, with the words as variables
        have HMAX : Hid (uv = vn1 → qd V S ≤ BW - 1 ∧ BW - 1 ≤ qd V S + 1) := fun h => gs_max hGs (by rw [hst, hv1, h])
        obtain ⟨s1, hs1e⟩ : ∃ s1, s1 = S[kk + 1] := ⟨_, rfl⟩
        obtain ⟨s0, hs0e⟩ : ∃ s0, s0 = S[kk] := ⟨_, rfl⟩
        obtain ⟨vn2, hv2e⟩ : ∃ vn2, vn2 = V[kk] := ⟨_, rfl⟩
        obtain ⟨RF, hRF⟩ : ∃ RF : Int → Int → Prop, RF = fun qh rh => Rf V S kk hVl hSl qh rh := ⟨_, rfl⟩
        have HST : Hid (uv < vn1 → RF ((uv * BW + s1) / vn1) ((uv * BW + s1) % vn1)) := fun h => by
          have := rf_start hGs (by rw [hst, hv1]; exact h)
          rw [hst, hv1, ← hs1e] at this
          rw [hRF]
          exact this
        have HDN : Hid (∀ qh rh, RF qh rh → ¬ rh * BW + s0 < qh * vn2 → qd V S ≤ qh ∧ qh ≤ qd V S + 1 ∧ 0 ≤ qh ∧ qh < BW) := fun qh rh h ht => by
          rw [hRF] at h
          rw [hs0e, hv2e] at ht
          exact ⟨h.ge, rf_done hGs h ht, h.q0, h.q1⟩
        have HSP : Hid (∀ qh rh, RF qh rh → rh * BW + s0 < qh * vn2 → 1 ≤ qh ∧ qd V S ≤ qh - 1 ∧ (rh + vn1 < BW → RF (qh - 1) (rh + vn1)) ∧ (BW ≤ rh + vn1 → qh - 1 ≤ qd V S + 1)) := fun qh rh h ht => by
          rw [hRF] at h ⊢
          rw [hs0e, hv2e] at ht
          have := rf_step hGs h ht
          rw [hv1] at this
          exact this
        have HRG : Hid (∀ qh rh, RF qh rh → 0 ≤ qh ∧ qh < BW ∧ 0 ≤ rh ∧ rh < BW) := fun qh rh h => by
          rw [hRF] at h
          exact ⟨h.q0, h.q1, h.r0, h.r1⟩
        rw [← hs1e] at hu1 hs1
        rw [← hs0e] at hu2 hs0
        rw [← hv2e] at hv2 hvr2
        have HSD := Lib.hid hSd; have HAL := Lib.hid hAt; have HAW := Lib.hid hAw; have HAR := Lib.hid hAr
        have X2 := Lib.hid x2; have X4 := Lib.hid x4; have X5 := Lib.hid x5'; have X6 := Lib.hid x6; have X7 := Lib.hid x7; have I2 := Lib.hid i2; have I3 := Lib.hid i3; have I4 := Lib.hid i4; have I5 := Lib.hid i5; have I6 := Lib.hid i6; have I7 := Lib.hid i7; have I8 := Lib.hid i8
        clear hSd hAt hAw hAr x1 x2 x3 x4 x5 x5' x6 x7 i2 i3 i4 i5 i6 i7 i8 huv hst hv1 hus hGs hs1e hs0e hv2e hRF hWS hSl hVl hnk HI hjA
        have HREC2 := HREC
        go_upto_if 51 with fail
        go_cut [15, 16, 17, 18, 19, 20] from 51 to 200 (fun qv _ _ _ _ _ wx => ∃ qh, qv = .int .u64 qh ∧ wr = wx ∧ Hid (qd V S ≤ qh ∧ qh ≤ qd V S + 1 ∧ 0 ≤ qh ∧ qh < BW))
        case first =>
          by_cases he : uv = vn1
          · have hbe : ((uv : Int) == vn1) = true := by simpa using he
            have HE := Lib.hid he
            clear he
            go_wp2_with fail
            go_meet
            have h1 := HMAX.out HE.out
            refine ⟨18446744073709551615, rfl, rfl, ?_, ?_, by omega, by unfold BW; omega⟩
            · have := h1.1
              unfold BW at this
              omega
            · have := h1.2
              unfold BW at this
              omega
          · have hlt : uv < vn1 := by omega
            have hbe : ((uv : Int) == vn1) = false := by rw [beq_eq_false_iff_ne]; exact he
            have hr0 := HST.out hlt
            have hrg := HRG.out _ _ hr0
            have HR0 := Lib.hid hr0
            clear hr0
            go_upto_region 14 with (go_at_call 241; refine (divWW_any uv s1 vn1 rec _ HREC.out hs2.1 hlt hs1.1 hs1.2).mono ?_; rintro e w2 ⟨rfl, hw⟩; obtain rfl := hw.symm)
            generalize (uv * BW + s1) / vn1 = qh0 at *
            generalize (uv * BW + s1) % vn1 = rh0 at *
            go_upto_region 16 with (go_at_call 208; refine (mulWW_any qh0 vn2 _ hrg.1 hrg.2.1 hvr2.1 hvr2.2).mono ?_; rintro e w2 ⟨rfl, rfl⟩)
            go_upto_region 17 with fail
            go_loopw [15, 16, 18, 19] (fun q r x y wx => ∃ qh rh, q = .int .u64 qh ∧ r = .int .u64 rh ∧ x = .int .u64 (mHi qh vn2 0) ∧ y = .int .u64 (mLo qh vn2 0) ∧ wr = wx ∧ Hid (RF qh rh)) (fun q _ _ _ _ => (intOf q).toNat)
            case atStart => exact ⟨qh0, rh0, rfl, rfl, rfl, rfl, rfl, HR0.out⟩
            case round =>
              obtain ⟨qh, rh, rfl, rfl, rfl, rfl, rfl, HRf⟩ := hrel
              obtain ⟨g1, g2, g3, g4⟩ := HRG.out _ _ HRf.out
              have hprod := mLoHi qh vn2 0
              have hx2 := mLo_rng qh vn2 0
              have HX1 := Lib.hid (mHi_rng qh vn2 0 g1 g2 hvr2.1 hvr2.2 (by omega) bw_pos)
              have HP : Hid (1 ≤ qh → _) := fun h => prod_pred qh vn2 _ _ h g2 hvr2.1 hvr2.2 rfl rfl
              generalize hX1 : mHi qh vn2 0 = x1 at *
              generalize hX2 : mLo qh vn2 0 = x2 at *
              have HPR : Hid (x1 * BW + x2 = qh * vn2) := by
                show _ = _
                rw [Int.mul_comm x1]
                omega
              clear hprod hX1 hX2
              by_cases ht : rh * BW + s0 < qh * vn2
              · obtain ⟨a1, a2, a3, a4⟩ := HSP.out qh rh HRf.out ht
                have HGT : Hid (true = decide (rh * BW + s0 < x1 * BW + x2)) := by
                  show _ = _
                  rw [HPR.out]
                  symm
                  simpa using ht
                have A2 := Lib.hid a2; have A3 := Lib.hid a3; have A4 := Lib.hid a4
                have hpp := HP.out a1
                have w15 : IntKind.u64.wrap (qh - 1) = qh - 1 := wrap_lt _ (by omega) (by omega)
                clear a2 a3 a4 ht
                go_upto_region 18 with (go_at_call 271; refine (greater_any x1 x2 rh s0 true _ hx2.1 hx2.2 hs0.1 hs0.2 HGT.out).mono ?_; rintro e w2 ⟨rfl, rfl⟩)
                have hv0 : 0 ≤ vn1 := by omega
                have hvB := HREC.out.lt
                have HV0 := Lib.hid hvB
                by_cases hov : BW ≤ rh + vn1
                · obtain ⟨r2, w16, hr2⟩ : ∃ r2, IntKind.u64.wrap (rh + vn1) = r2 ∧ r2 < vn1 := ⟨rh + vn1 - BW, by rw [IntKind.wrap_u64]; unfold BW at *; omega, by omega⟩
                  have hd : decide (r2 < vn1) = true := by simpa using hr2
                  have HF : Hid (qd V S ≤ qh - 1 ∧ qh - 1 ≤ qd V S + 1 ∧ 0 ≤ qh - 1 ∧ qh - 1 < BW) := ⟨A2.out, A4.out hov, by omega, by omega⟩
                  clear hov hr2 hvB hpp
                  go_wp2_with fail
                  go_meet
                  exact ⟨qh - 1, rfl, rfl, HF.out⟩
                · obtain ⟨r2, w16, hr2, hr3⟩ : ∃ r2, IntKind.u64.wrap (rh + vn1) = r2 ∧ ¬ r2 < vn1 ∧ r2 = rh + vn1 := ⟨rh + vn1, wrap_lt _ (by omega) (by omega), by omega, rfl⟩
                  have hd : decide (r2 < vn1) = false := by simpa using hr2
                  have HF : Hid (RF (qh - 1) r2) := by
                    show RF _ _
                    rw [hr3]
                    exact A3.out (by omega)
                  clear hov hr2 hr3 hvB
                  by_cases hx : x2 < vn2
                  · obtain ⟨p1, p2, p3⟩ := hpp.1 hx
                    have w18 : IntKind.u64.wrap (x1 - 1) = x1 - 1 := wrap_lt _ (by omega) (by have := HX1.out.2; omega)
                    obtain ⟨y2, w19, hy2⟩ : ∃ y2, IntKind.u64.wrap (x2 - vn2) = y2 ∧ mLo (qh - 1) vn2 0 = y2 := ⟨x2 - vn2 + BW, by rw [IntKind.wrap_u64]; unfold BW at *; omega, p2⟩
                    have hd2 : decide (x2 < vn2) = true := by simpa using hx
                    have P1 := Lib.hid p1; have P2 := Lib.hid hy2
                    clear hpp p1 p2 p3 hy2 hx
                    go_wp2_with fail
                    go_roundw
                    case rel => exact ⟨qh - 1, r2, rfl, rfl, by rw [P1.out], by rw [P2.out], trivial, HF.out⟩
                    case measure => simp [intOf] <;> omega
                  · obtain ⟨p1, p2⟩ := hpp.2 (by omega)
                    obtain ⟨y2, w19, hy2⟩ : ∃ y2, IntKind.u64.wrap (x2 - vn2) = y2 ∧ mLo (qh - 1) vn2 0 = y2 := ⟨x2 - vn2, wrap_lt _ (by omega) (by omega), p2⟩
                    have hd2 : decide (x2 < vn2) = false := by simpa using hx
                    have P1 := Lib.hid p1; have P2 := Lib.hid hy2
                    clear hpp p1 p2 hy2 hx
                    go_wp2_with fail
                    go_roundw
                    case rel => exact ⟨qh - 1, r2, rfl, rfl, by rw [P1.out], by rw [P2.out], trivial, HF.out⟩
                    case measure => simp [intOf] <;> omega
              · have HGT : Hid (false = decide (rh * BW + s0 < x1 * BW + x2)) := by
                  show _ = _
                  rw [HPR.out]
                  symm
                  simpa using ht
                have HD := Lib.hid (HDN.out qh rh HRf.out (by omega))
                clear ht
                go_wp2_with (go_at_call 271; refine (greater_any x1 x2 rh s0 false _ hx2.1 hx2.2 hs0.1 hs0.2 HGT.out).mono ?_; rintro e w2 ⟨rfl, rfl⟩)
                go_meet
                exact ⟨qh, rfl, rfl, HD.out⟩
        case rest =>
          obtain ⟨qh, rfl, rfl, HQH⟩ := hcut
          obtain ⟨hq1, hq2, hq3, hq4⟩ := HQH.out
          have HMV := Lib.hid (mulAddVWW_seg g L (n + 1) vb vo vc n V qh 0 wr (by have := HVL.out; have := HNK.out; omega) HV.out hq3 hq4 (by omega) bw_pos (by omega) I6.out (fun j hj => I7.out j (by have := HNK.out; omega)) (by
            by_cases h : vb = g
            · exact .inr (.inr (HGV.out h))
            · exact .inl h))
          clear hu1 hu2 hv2 HMAX HST HDN HSP HRG
          go_upto_region 25 with (go_at_call 172; refine HMV.out.mono ?_; rintro e w2 ⟨rfl, hs⟩; have HS2 := Lib.hid hs; obtain ⟨⟨u2, hu2c⟩, hu2f⟩ := seg_room hs I7.out n (by have := HNK.out; omega); clear hs)
          have hs3 : Seg wr (w2.setCell ⟨g, L + n, none⟩ (.int .u64 (mvC V qh 0))) g L (qv V qh) := by
            refine seg_snoc HS2.out ?_ (room_some I7.out (by have := HNK.out; omega)) _
            rw [mvL_len]
            have := HVL.out; have := HNK.out
            omega
          generalize hmc : mvC V qh 0 = mc at *
          generalize w2.setCell ⟨g, L + n, none⟩ (.int .u64 mc) = w3 at hs3 ⊢
          have HS3 := Lib.hid hs3
          clear hs3 hu2c hu2f HS2 hmc
          have hfit : m + n ≤ uc := by have := HUB1.out.fit; have := HUL.out; omega
          have hjm : j + (n + 1) ≤ m + n := by omega
          go_upto_region 28 with fail
          obtain ⟨jn, i1, i2, i3, i4⟩ : ∃ jn : Nat, IntKind.i64.wrap ((j : Int) + ((n : Int) + 1)) = (jn : Int) ∧ jn ≤ uc ∧ j ≤ jn ∧ jn - j = n + 1 := ⟨j + (n + 1), by rw [IntKind.wrap_i64]; omega, by omega, by omega, by omega⟩
          have i5 : ¬ uc = j := by omega
          have i6 : (0 : Int) ≤ (n : Int) + 1 := by omega
          go_still_tail 15, (by kernel_rfl)
          change wpList _ _ _ _ _ w3.drew
          have hnk := HNK.out
          have hSl : S.length = n + 1 := by rw [HSD.out, List.length_cons, I2.out]; omega
          have hWS : Words S := by rw [HSD.out]; exact words_cons HAR.out I3.out
          have hub3 : NatB w3 ub uc (A' ++ (S ++ List.replicate (m - (j + 1)) 0)) := natB_kp X5.out HS3.out.kp (by simp only [List.mem_singleton]; exact fun h => HGU.out h.symm)
          have hsv := subVV_seg ub j (uc - j) ub j (uc - j) g L (n + 1) (n + 1) S (qv V qh) w3.drew hSl (by rw [qv_len, HVL.out, hnk]) hWS (words_qv qh HV.out hq3 hq4) (by omega)
            (by have := natB_sub hub3; rw [HAL.out] at this; exact this)
            HS3.out.rds
            (fun i hi => natB_room hub3 (n := m + n) hfit (j + i) (by omega) |> fun h => by simpa using h)
            (.inr (.inl (Nat.le_refl _))) (.inl HGU.out)
          obtain ⟨D, hD⟩ : ∃ D, D = svL S (qv V qh) 0 := ⟨_, rfl⟩
          obtain ⟨cb, hcb⟩ : ∃ cb, cb = svC S (qv V qh) 0 := ⟨_, rfl⟩
          rw [← hD, ← hcb] at hsv
          have hDl : D.length = kk + 3 := by rw [hD, svL_len _ _ _ (by rw [qv_len, HVL.out, hSl, hnk]), hSl]; omega
          have hDw : Words D := by rw [hD]; exact words_sv _ _ _
          have HSV := Lib.hid hsv; have HUB3 := Lib.hid hub3; have HSL := Lib.hid hSl; have HDD := Lib.hid hD; have HCB := Lib.hid hcb; have HDL := Lib.hid hDl; have HDW := Lib.hid hDw; have HWS := Lib.hid hWS
          clear hsv hub3 hSl hD hcb hDl hDw hWS i1 i2 i3 i4 i5 i6 hnk
          have HIM : Hid (∀ (W : World) (F : List Int), Seg w3.drew W ub j F → F.length = kk + 3 → NatB W ub uc (A' ++ (F ++ List.replicate (m - (j + 1)) 0)) ∧ Kp [ub, g] wr W ∧ Reads W vb vo V ∧ Room W g L (kk + 3) ∧ StkAt W sb [si, g] (L + nr)) := by
            intro W F hs hl
            have k1 : Kp [ub, g] wr w3.drew := (seg_lift HS3.out (by simp)).trans ((Kp.refl _ w3).drewN 1)
            have r1 : Reads w3 vb vo V := seg_reads HS3.out I6.out (by
              by_cases h : vb = g
              · have h2 := HGV.out h
                have := HVL.out; have := HNK.out
                exact .inr (.inl (by omega))
              · exact .inl h)
            have m1 : Room w3 g L (kk + 3) := seg_room HS3.out I7.out
            have s1 : StkAt w3.drew sb [si, g] (L + nr) := stk_kp (stk_seg I8.out HS3.out) ((Kp.refl [] w3).drewN 1) (by simp)
            refine ⟨natB_seg (natB_drewN HUB3.out 1) hs HAL.out.symm (by rw [hl, HSL.out, HNK.out]), k1.trans (seg_lift hs (by simp)), seg_reads hs (w := w3.drew) r1 (.inl d1), seg_room hs (w := w3.drew) m1, stk_kp s1 hs.kp (by
              have h3 := HUS.out.1
              intro x hx hx2
              simp only [List.mem_singleton] at hx2
              subst hx2
              exact h3 hx)⟩
          go_upto_region 29 with (go_at_call 272; refine HSV.out.mono ?_; rintro e w4 ⟨rfl, hs⟩; have HS4 := Lib.hid hs; clear hs)
          go_upto_if 148 with fail
          go_cut [15, 23] from 148 to 200 (fun qv _ wx => ∃ F, qv = .int .u64 (qd V S) ∧ Hid (F.length = kk + 3 ∧ Words F ∧ val F = val S - val V * qd V S ∧ Seg w3.drew wx ub j F))
          case first =>
            obtain ⟨e1, e2, hG⟩ := HGS.out
            by_cases hc : cb = 0
            · obtain ⟨f1, f2⟩ := gs_sub0 hG qh hq1 hq2 hq3 hq4 (by rw [← HCB.out]; exact hc)
              have hbe : ((cb : Int) == 0) = true := by simpa using hc
              have F1 := Lib.hid f1; have F2 := Lib.hid f2
              clear hc f1 f2 hG
              go_wp2_with fail
              go_meet
              exact ⟨D, by rw [F1.out], HDL.out, HDW.out, by rw [HDD.out]; exact F2.out, HS4.out⟩
            · have htk2 : D.take (kk + 2) = D.take n := by rw [HNK.out]
              have hDk : kk + 2 < D.length := by have := HDL.out; omega
              obtain ⟨t, ht⟩ : ∃ t, t = D[kk + 2] := ⟨_, rfl⟩
              obtain ⟨f1, f2, f3, f4⟩ := gs_sub1 hG qh hq1 hq2 hq3 hq4 (by rw [← HCB.out]; exact hc) D HDD.out HDL.out (avL (D.take n) V 0 ++ [IntKind.u64.wrap (t + avC (D.take n) V 0)]) (by rw [← htk2, ht])
              have hdn : w4.cell? ⟨ub, j + n, none⟩ = some (.int .u64 t) := by
                have h1 := HS4.out.rds (kk + 2) hDk
                rw [← ht, show j + (kk + 2) = j + n by have := HNK.out; omega] at h1
                exact h1
              have hbe : ((cb : Int) == 0) = false := by rw [beq_eq_false_iff_ne]; exact hc
              have hq0 := (gs_q hG).1
              have w15 : IntKind.u64.wrap (qh - 1) = qh - 1 := wrap_lt _ (by omega) (by omega)
              have F1 := Lib.hid f1
              clear hc f1 hG hq0
              go_upto_region 30 with fail
              obtain ⟨jn, i1, i2, i3, i4⟩ : ∃ jn : Nat, IntKind.i64.wrap ((j : Int) + (n : Int)) = (jn : Int) ∧ jn ≤ uc ∧ j ≤ jn ∧ jn - j = n := ⟨j + n, by rw [IntKind.wrap_i64]; omega, by omega, by omega, by omega⟩
              have i5 : ¬ uc = j := by omega
              go_still_tail 13, (by kernel_rfl)
              change wpList _ _ _ _ _ w4.drew
              have hnk := HNK.out
              have hdl := HDL.out
              have hub4 := (HIM.out w4 D HS4.out hdl).1
              have htk : (D.take n).length = n := by rw [List.length_take]; omega
              have hav := addVV_seg ub j (uc - j) ub j (uc - j) vb vo vc n (D.take n) V w4.drew htk (by rw [HVL.out, hnk]) (words_take HDW.out n) HV.out (by omega)
                (fun i hi => by
                  have h1 := HS4.out.rds i (by rw [List.length_take] at hi; omega)
                  rw [List.getElem_take]
                  exact h1)
                (HIM.out w4 D HS4.out hdl).2.2.1
                (fun i hi => natB_room hub4 (n := m + n) hfit (j + i) (by omega) |> fun h => by simpa using h)
                (.inr (.inl (Nat.le_refl _))) (.inl d1)
              have hfn : w4.frozen? ⟨ub, j + n, none⟩ = false := natB_frz hub4
              have HAV := Lib.hid hav; have F2 := Lib.hid f2; have F3 := Lib.hid f3; have F4 := Lib.hid f4; have HTK := Lib.hid htk; have HDN := Lib.hid hdn; have HFN := Lib.hid hfn
              clear hav f2 f3 f4 htk htk2 hDk ht hdn hfn hub4 hdl hnk i1 i2 i3 i4 i5
              generalize hAC : avC (D.take n) V 0 = ac at *
              generalize hAL : avL (D.take n) V 0 = al at *
              have HALL : Hid (al.length = n) := by
                show _ = _
                rw [← hAL, avL_len _ _ _ (by rw [HTK.out, HVL.out, HNK.out]), HTK.out]
              clear hAC hAL
              go_upto_region 31 with (go_at_call 233; refine HAV.out.mono ?_; rintro e w5 ⟨rfl, hs⟩; have HS5 := Lib.hid hs; clear hs)
              have hc5 : w5.cell? ⟨ub, j + n, none⟩ = some (.int .u64 t) := by
                rw [HS5.out.out ⟨ub, j + n, none⟩ (World.block_lt_of_cell? w4 _ HDN.out) (fun _ _ => .inr (by show _ ≤ j + n; rw [HALL.out]; omega))]
                exact HDN.out
              have hf5 : w5.frozen? ⟨ub, j + n, none⟩ = false := by rw [HS5.out.frz]; exact HFN.out
              go_wp2_with fail
              go_meet
              have hsx : Seg w5 (w5.setCell ⟨ub, j + n, none⟩ (.int .u64 (IntKind.u64.wrap (t + ac)))) ub (j + n) ([] ++ [IntKind.u64.wrap (t + ac)]) := seg_snoc (seg_nil w5 ub (j + n)) rfl (by simp only [List.length_nil, Nat.add_zero]; rw [hc5]; rfl) _
              refine ⟨al ++ [IntKind.u64.wrap (t + ac)], by rw [F1.out], F3.out, F2.out, F4.out, ?_⟩
              have hs5 : Seg w3.drew w5 ub j (al ++ [t]) := seg_over (seg_drewN HS4.out 1) HS5.out (Nat.le_refl _) (by rw [HALL.out, HDL.out, HNK.out]; omega) (by rw [List.length_append, HALL.out, HDL.out, HNK.out]; simp) (fun i hi => by
                rw [List.length_append, HALL.out] at hi
                by_cases h1 : i < n
                · rw [List.getElem_append_left (by rw [HALL.out]; exact h1)]
                  exact HS5.out.rds i (by rw [HALL.out]; exact h1)
                · have h2 : i = n := by simp at hi; omega
                  subst h2
                  rw [List.getElem_append_right (by rw [HALL.out]; omega), hc5]
                  simp [HALL.out])
              exact seg_over hs5 hsx (by omega) (by simp [HALL.out]; omega) (by simp) (fun i hi => by
                rw [List.length_append, HALL.out] at hi
                by_cases h1 : i < n
                · rw [List.getElem_append_left (by rw [HALL.out]; exact h1), World.cell?_setCell_other _ _ _ _ (by intro e; simp at e <;> omega)]
                  exact HS5.out.rds i (by rw [HALL.out]; exact h1)
                · have h2 : i = n := by simp at hi; omega
                  subst h2
                  rw [World.cell?_setCell_same _ _ _ hc5, List.getElem_append_right (by rw [HALL.out]; omega)]
                  simp [HALL.out])
          case rest =>
            obtain ⟨F, rfl, HF⟩ := hcut
            obtain ⟨f1, f2, f3, f4⟩ := HF.out
            obtain ⟨n1, n2, n3, n4, n5⟩ := HIM.out wc F f4 f1
            obtain ⟨e1, e2, hG⟩ := HGS.out
            obtain ⟨q0, q1, q2, q3⟩ := gs_q hG
            have hvF : val F < val V := by
              rw [f3]
              rw [Int.add_mul, Int.one_mul] at q3
              rw [Int.mul_comm]
              omega
            have hF0 : F = F.take (kk + 2) ++ [0] := small_last f2 f1 (by
              have h1 := val_lt V HV.out
              rw [HVL.out] at h1
              omega)
            have hT2l : (F.take (kk + 2)).length = kk + 2 := by rw [List.length_take]; omega
            have hT2w := words_take f2 (kk + 2)
            have hvT : val (F.take (kk + 2)) = val F := by
              conv => rhs; rw [hF0, val_snoc]
              omega
            generalize F.take (kk + 2) = T2 at *
            obtain ⟨uv2, huv2⟩ : ∃ uv2, uv2 = T2[kk + 1]'(by omega) := ⟨_, rfl⟩
            have hu1 : wc.cell? ⟨ub, j + n - 1, none⟩ = some (.int .u64 uv2) := by
              have h1 := natB_sub n1 (kk + 1) (by omega)
              rw [HAL.out] at h1
              rw [show j + n - 1 = j + (kk + 1) by have := HNK.out; omega, h1, huv2]
              congr 2
              simp only [hF0]
              rw [List.getElem_append_left (by omega)]
            obtain ⟨cur2, hqc1, hqc2⟩ : ∃ cur, wc.heap[qb]? = some (.cells cur 156 (0, 0)) ∧ cur.size = qc := by
              obtain ⟨c1, a1, a2⟩ := X6.out.blk
              exact ⟨c1, by rw [n2.block qb (Array.getElem?_eq_some_iff.1 a1).1 (by simp only [List.mem_cons, List.mem_nil_iff, or_false, not_or]; exact ⟨fun h => d3 h.symm, fun h => HGQ.out h.symm⟩)]; exact a1, a2⟩
            have hcj : wc.cell? ⟨qb, j, none⟩ = some cur2[j] := by rw [cell_of_row _ _ _ _ _ _ hqc1]; simp
            have hfj : wc.frozen? ⟨qb, j, none⟩ = false := frozen_of_row _ _ _ _ _ hqc1
            generalize cur2[j] = uj at hcj
            have hne : ((j : Int) == (m : Int)) = false := by rw [beq_eq_false_iff_ne]; omega
            have N1 := Lib.hid n1; have N2 := Lib.hid n2; have N3 := Lib.hid n3; have N4 := Lib.hid n4; have N5 := Lib.hid n5; have HF0 := Lib.hid hF0; have HT2 := Lib.hid hT2l; have HT2W := Lib.hid hT2w; have HVT := Lib.hid hvT; have HVF := Lib.hid hvF; have HUV2 : Hid (∀ h : kk + 1 < T2.length, T2[kk + 1] = uv2) := fun _ => huv2.symm; have HQ1 := Lib.hid hqc1; have HQ2 := Lib.hid hqc2; have HCJ := Lib.hid hcj; have F3 := Lib.hid f3; have Q0 := Lib.hid q0; have Q1 := Lib.hid q1
            clear n1 n2 n3 n4 n5 hF0 huv2 hT2l hT2w hvT hvF hqc1 hqc2 f1 f2 f3 f4 q0 q1 q2 q3 hG
            go_wp2_with fail
            have hk7 : Kp [ub, qb, g] w1 (wc.setCell ⟨qb, j, none⟩ (.int .u64 (qd V S))) := by
              have h1 : Kp [ub, qb, g] wr wc := ⟨N2.out.os, N2.out.tape, N2.out.output, N2.out.size, fun k hk hn => N2.out.block k hk (by simp only [List.mem_cons, List.mem_nil_iff, or_false, not_or] at hn ⊢; exact ⟨hn.1, hn.2.2⟩)⟩
              exact (I5.out.trans h1).setCell (by simp) _
            have hkq : Kp [qb] wc (wc.setCell ⟨qb, j, none⟩ (.int .u64 (qd V S))) := (Kp.refl _ _).setCell (by simp) _
            have hmj : m - j = (m - (j + 1)) + 1 := by omega
            refine ⟨⟨j, rfl, .inr ⟨by omega, T2, uv2, rfl, fun h => HUV2.out h, ⟨A', qd V S :: Qs, HAL.out, by rw [List.length_cons, X2.out]; omega, HAW.out, words_cons ⟨Q0.out, Q1.out⟩ X4.out, ?_, ⟨⟨_, heap_setCell_at _ _ _ _ _ _ _ HQ1.out, by simpa using HQ2.out⟩, fun i hi => ?_, by rw [List.length_cons, X2.out]; omega⟩, ?_⟩, HT2.out, HT2W.out, by rw [HVT.out]; exact HVF.out, hk7, fun i hi => ?_, fun i hi => ?_, stk_kp N5.out hkq (by
              have h3 := HUS.out.2
              intro x hx hx2
              simp only [List.mem_singleton] at hx2
              subst hx2
              exact h3 hx)⟩⟩, by simp [intOf] <;> omega⟩
            · refine natB_kp (w := wc) ?_ hkq (by simp only [List.mem_singleton]; exact d3)
              have h1 := N1.out
              rw [HF0.out, List.append_assoc] at h1
              rw [hmj, List.replicate_succ]
              exact h1
            · cases i with
              | zero => exact World.cell?_setCell_same _ _ _ HCJ.out
              | succ i =>
                have hiq : i < Qs.length := by simpa using hi
                have h1 := X6.out.rds i hiq
                rw [World.cell?_setCell_other _ _ _ _ (by intro e; simp at e <;> omega)]
                have h2 : wc.cell? ⟨qb, j + 1 + i, none⟩ = some (.int .u64 Qs[i]) := by
                  rw [World.cell?_of_block (N2.out.block qb (World.block_lt_of_cell? wr ⟨qb, j + 1 + i, none⟩ h1) (by simp only [List.mem_cons, List.mem_nil_iff, or_false, not_or]; exact ⟨fun h => d3 h.symm, fun h => HGQ.out h.symm⟩))]
                  exact h1
                rw [show j + (i + 1) = j + 1 + i by omega]
                exact h2
            · have h7 := X7.out
              rw [val_append, HAL.out] at h7
              rw [HVT.out, F3.out, HSD.out, val, val, ← h7]
              simp only [val, Int.pow_succ]
              generalize qd V (a :: T) = qq at *
              grind
            · rw [World.cell?_setCell_other _ _ _ _ (by intro e; exact d2 (congrArg Addr.block e).symm)]
              exact N3.out i hi
            · obtain ⟨⟨u9, hu9⟩, hf9⟩ := N4.out i hi
              refine ⟨⟨u9, ?_⟩, (World.frozen?_setCell _ _ _ _).trans hf9⟩
              rw [World.cell?_setCell_other _ _ _ _ (by intro e; exact HGQ.out (congrArg Addr.block e).symm)]
              exact hu9
      · obtain rfl : k = 0 := by omega
        obtain ⟨huv, ⟨A, Qs, x1, x2, x3, x4, x5, x6, x7⟩, i2, i3, i4, i5, i6, i7, i8⟩ := HI.out
        obtain rfl : A = [] := List.eq_nil_of_length_eq_zero x1
        rw [List.nil_append] at x5
        have hn0 := HN.out
        have h9 : val U = val V * val Qs + val T := by
          rw [← x7]
          simp only [val, Int.pow_zero]
          omega
        obtain ⟨ea, eb⟩ := dm_eq (val U) (val V) (val Qs) (val T) h9 (val_nonneg T i3) i4
        have HST := Lib.hid i8
        have HP : Hid (∀ W' : World, RestPost sb [si, g] L wr W' → DbPost w sb ub uc qb qc L m kk l U V (.returned (.tuple #[])) W') := by
          intro W' ⟨r1, r2⟩
          have hus := HUS.out
          have hk : Kp (ub :: qb :: sb :: l) w W' := by
            have h1 := HN.out.kp
            have h2 := natB_lt HUB.out
            refine ⟨r2.os.trans (i5.os.trans h1.os), r2.tape.trans (i5.tape.trans h1.tape), r2.output.trans (i5.output.trans h1.output), Nat.le_trans h1.size (Nat.le_trans i5.size r2.size), fun x hx hn => ?_⟩
            simp only [List.mem_cons, not_or] at hn
            have h4 := HN.out.new si (by simp)
            have h5 := HN.out.new g (by simp)
            have hx1 := Nat.lt_of_lt_of_le hx h1.size
            have hx2 := Nat.lt_of_lt_of_le hx1 i5.size
            have hsi : x ≠ si := by
              rintro rfl
              rcases h4 with h4 | h4
              · exact hn.2.2.2 h4
              · omega
            have hg : x ≠ g := by
              rintro rfl
              rcases h5 with h5 | h5
              · exact hn.2.2.2 h5
              · omega
            rw [r2.block x hx2 (by simp only [List.mem_cons, List.mem_nil_iff, or_false, not_or]; exact ⟨hn.2.2.1, hsi, hg⟩), i5.block x hx1 (by simp only [List.mem_cons, List.mem_nil_iff, or_false, not_or]; exact ⟨hn.1, hn.2.1, hg⟩), h1.block x hx (by simp only [List.mem_cons, not_or]; exact ⟨hn.2.2.1, hn.2.2.2⟩)]
          refine ⟨rfl, T, Qs, [si, g], i2, i3, natB_kp (by simpa using x5) r2 hus.1, eb.symm, ?_, by simpa using x2, x4, ea.symm, r1, HN.out.new, hk⟩
          obtain ⟨cur, c1, c2⟩ := x6.blk
          refine ⟨⟨cur, by rw [r2.block qb (Array.getElem?_eq_some_iff.1 c1).1 hus.2]; exact c1, c2⟩, fun i hi => ?_, by have := x6.fit; omega⟩
          rw [World.cell?_of_block (r2.block qb (Array.getElem?_eq_some_iff.1 c1).1 hus.2)]
          exact x6.rds i hi
        clear x1 x2 x3 x4 x5 x6 x7 i2 i3 i4 i5 i6 i7 i8 huv HI hn0 h9 ea eb
        go_wp2_with fail
        simp only [bodyPostD]
        refine leaves_cons (f := 229) (args := #[.pointer (some ⟨sb, 0, none⟩), .int .i64 L]) (by simp) (by simp [go_sem]) ?_
        refine (restore_d sb (L + nr) L [si, g] .returning _ HST.out (by omega)).mono ?_
        rintro e u' w'' ⟨rfl, rfl, hR⟩
        exact ⟨.tuple #[], by simp [results, Tryz.results237, go_sem], HP.out _ hR⟩
end Go.Proofs.YtoofphhfealcaaaGreatDoor
