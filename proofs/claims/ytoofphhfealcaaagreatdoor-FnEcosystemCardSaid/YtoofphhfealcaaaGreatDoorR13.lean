/-
  WALKS: the long division of numbers (divLarge), the divisor scaled by no bit or by one.
-/
import Derived.Test.YtoofphhfealcaaaGreatDoorR12
namespace Go.Proofs.YtoofphhfealcaaaGreatDoor
open Go.RowKit

/-- What a division leaves: the quotient in its old row, the rest in another. -/
def DivPost (w : World) (sb qb qc : Nat) (l rl : List Nat) (xs V : List Int) (e : Ending) (w' : World) : Prop :=
  ∃ (Q R : List Int) (ub uc : Nat) (l' : List Nat), e = .returned (.tuple #[.slice (some ⟨qb, 0, none⟩) Q.length qc, .slice (some ⟨ub, 0, none⟩) R.length uc]) ∧
    (NatB w' qb qc Q ∧ Words Q ∧ nrm Q = Q ∧ val Q = val xs / val V) ∧ (NatB w' ub uc R ∧ Words R ∧ nrm R = R ∧ val R = val xs % val V) ∧ uc ≤ 1048576 ∧ ub ≠ qb ∧ (ub ∈ rl ∨ w.heap.size ≤ ub) ∧
    StkAt w' sb l' 0 ∧ (∀ x ∈ l', x ∈ l ∨ w.heap.size ≤ x) ∧ ub ∉ sb :: l' ∧ Kp (qb :: sb :: (l ++ rl)) w w'
theorem kp_mono {l m : List Nat} {w w' : World} (h : Kp l w w') (hs : ∀ x ∈ l, x ∈ m ∨ w.heap.size ≤ x) : Kp m w w' :=
  ⟨h.os, h.tape, h.output, h.size, fun k hk hn => h.block k hk (fun hm => by
    rcases hs k hm with h1 | h1
    · exact hn h1
    · omega)⟩
theorem kp_step {m k : List Nat} {w w1 w2 : World} (h : Kp m w w1) (hk : Kp k w1 w2) (hs : ∀ x ∈ k, x ∈ m ∨ w.heap.size ≤ x) : Kp m w w2 :=
  ⟨hk.os.trans h.os, hk.tape.trans h.tape, hk.output.trans h.output, Nat.le_trans h.size hk.size, fun x hx hn => (hk.block x (Nat.lt_of_lt_of_le hx h.size) (fun hm => by
    rcases hs x hm with h1 | h1
    · exact hn h1
    · omega)).trans (h.block x hx hn)⟩
theorem zok_kp {w w' : World} {z : Value} {rl m : List Nat} (h : ZOK w z rl) (hk : Kp m w w') (hn : ∀ x ∈ rl, x ∉ m) : ZOK w' z rl := by
  rcases h with h | ⟨rb, len, rc, h1, h2, h3, h4⟩
  · exact .inl h
  · subst h2
    exact .inr ⟨rb, len, rc, h1, rfl, rowC_kp h3 hk (hn rb (by simp)), h4⟩
set_option maxRecDepth 100000 in
set_option maxHeartbeats 8000000 in
theorem divLarge_any (qb qc sb vb vc n kk lx m0 sh : Nat) (rec vt vn1 : Int) (z2 : Value) (l rl : List Nat) (xs V Vn : List Int) (w : World)
    (hn : n = kk + 2) (hn5 : 5 ≤ n) (hn40 : n < 40) (hVl : V.length = kk + 2) (hlx : xs.length = lx) (hm0 : lx = m0 + n) (hlx9 : lx ≤ 900) (hV : Words V) (hX : Words xs)
    (hS : StkAt w sb l 0) (hr1 : bits .andNot .i64 ((n : Int) + 3) 3 = (n : Int)) (hr2 : bits .andNot .i64 (((n + 1 : Nat) : Int) + 3) 3 = ((n + 4 : Nat) : Int))
    (hQB : NatB w qb qc xs) (hqc : qc ≤ 1048576) (hRV : Reads w vb 0 V) (hZ : ZOK w z2 rl)
    (d1 : qb ∉ sb :: (l ++ rl)) (d2 : vb ∉ qb :: sb :: (l ++ rl)) (d3 : ∀ x ∈ rl, x ∉ sb :: l) (d4 : ∀ x ∈ qb :: sb :: (l ++ rl), 20 ≤ x) (hw20 : 20 ≤ w.heap.size)
    (hvt : ∀ h : kk + 1 < V.length, V[kk + 1] = vt) (hnlz : ∀ W, Calls Tryz.prog 225 #[.int .u64 vt] W fun e w' => e = .returned (.int .u64 sh) ∧ W = w')
    (hsh : (sh = 0 ∧ Vn = V) ∨ (sh = 1 ∧ Vn = mvL V 2 0 ∧ mvC V 2 0 = 0)) (hvn1 : ∀ h : kk + 1 < Vn.length, Vn[kk + 1] = vn1) (hrec : Rec vn1 rec) (hrc : ∀ W, Calls Tryz.prog 240 #[.int .u64 vn1] W fun e w' => e = .returned (.int .u64 rec) ∧ w' = W)
    (h17 : w.cell? ⟨17, 0, none⟩ = some (.int .i64 40)) :
    Calls Tryz.prog 212 #[.slice (some ⟨qb, 0, none⟩) lx qc, .pointer (some ⟨sb, 0, none⟩), z2, .slice (some ⟨qb, 0, none⟩) lx qc, .slice (some ⟨vb, 0, none⟩) n vc] w (DivPost w sb qb qc l rl xs V) := by
  have hv1 : w.cell? ⟨vb, n - 1, none⟩ = some (.int .u64 vt) := by
    have := hRV (kk + 1) (by omega)
    rw [hvt, Nat.zero_add] at this
    rw [show n - 1 = kk + 1 by omega]
    exact this
  have hsn := stackNat_any sb 0 n n l w hS (by omega) hr1 (Nat.le_refl _) (by omega)
  have hmk2 : ∀ W, Calls Tryz.prog 171 #[.slice (some ⟨qb, 0, none⟩) lx qc, .int .i64 ((lx : Int) - (n : Int) + 1)] W fun e w' => e = .returned (.slice (some ⟨qb, 0, none⟩) (m0 + 1) qc) ∧ W = w' := fun W => by
    have := make_fit qb 0 lx qc (m0 + 1) W (by have := hQB.fit; omega) (by omega)
    rw [show (((m0 + 1 : Nat)) : Int) = (lx : Int) - (n : Int) + 1 by omega] at this
    exact this
  have hlt40 : decide ((n : Int) < 40) = true := by simp; omega
  have HSN := Lib.hid hsn; have HMK2 := Lib.hid hmk2
  have HNK := Lib.hid hn; have HVL := Lib.hid hVl; have HXL := Lib.hid hlx; have HM0 := Lib.hid hm0; have HV := Lib.hid hV; have HX := Lib.hid hX; have HS := Lib.hid hS; have HR2 := Lib.hid hr2; have HQB := Lib.hid hQB; have HRV := Lib.hid hRV; have HZ := Lib.hid hZ; have HD1 := Lib.hid d1; have HD2 := Lib.hid d2; have HD3 := Lib.hid d3; have HD4 := Lib.hid d4; have HVN := Lib.hid hvn1; have HNZ := Lib.hid hnlz; have HSH := Lib.hid hsh; have HREC := Lib.hid hrec; have HRC := Lib.hid hrc; have H17 := Lib.hid h17; have HV1 := Lib.hid hv1; have HW20 := Lib.hid hw20
  clear hsn hmk2 hn hVl hlx hm0 hV hX hS hr1 hr2 hQB hRV hZ d1 d2 d3 d4 hvt hnlz hsh hvn1 hrec hrc h17 hw20
  go_enter_defers Tryz.func212, Tryz.ntmps212
  go_upto_region 4 with (go_at_call 230; refine (save_any sb 0 l _ HS.out).mono ?_; rintro e w' ⟨rfl, rfl⟩)
  go_upto_region 5 with (go_at_call 225; refine (HNZ.out _).mono ?_; rintro e w' ⟨rfl, rfl⟩)
  go_upto_region 6 with (go_at_call 231; refine HSN.out.mono ?_; rintro e w1 ⟨si, g, rfl, hN⟩; have HN := Lib.hid hN; clear hN)
  have hmk := make_u z2 rl (lx + 1) w1 (zok_kp HZ.out HN.out.kp HD3.out) (by have := HM0.out; omega) (by omega)
  rw [show (((lx + 1 : Nat)) : Int) = (lx : Int) + 1 by omega] at hmk
  have HMK := Lib.hid hmk
  clear hmk hv1
  go_upto_region 7 with (go_at_call 171; refine HMK.out.mono ?_; rintro e w2 ⟨ub, uc, rfl, hM⟩; have HM := Lib.hid hM; clear hM)
  -- where the rows lie
  have hgs : g ∉ qb :: vb :: rl ∧ g ∉ [sb, si] ∧ 20 ≤ g ∧ 20 ≤ si ∧ si ∉ qb :: rl := by
    have h1 := natB_lt HQB.out
    have h2 := reads_lt HRV.out (by have := HVL.out; omega)
    have h3 := HN.out.new g (by simp)
    have h4 := HN.out.new si (by simp)
    have h5 : ∀ x ∈ rl, x < w.heap.size := fun x hx => by
      rcases HZ.out with ⟨_, h⟩ | ⟨rb, len, rc, _, h, hr, _⟩
      · rw [h] at hx; simp at hx
      · rw [h] at hx; simp at hx; subst hx; exact rowC_lt hr
    have a1 := HD1.out
    have a2 := HD2.out
    have a3 := HD3.out
    have a4 := HD4.out
    simp only [List.mem_cons, List.mem_append, not_or] at a1 a2
    have hst := HN.out.stk
    refine ⟨?_, ?_, ?_, ?_, ?_⟩
    · simp only [List.mem_cons, not_or]
      rcases h3 with h3 | h3
      · exact ⟨fun e => a1.2.1 (by rw [← e]; exact h3), fun e => a2.2.2.1 (by rw [← e]; exact h3), fun e => a3 g e (by simp [h3])⟩
      · refine ⟨by omega, by omega, fun e => ?_⟩
        have := h5 g e
        omega
    · cases hst with
      | row si b L c cur h h2 h3 hc hL h63 hd hd2 hd3 =>
        simp only [List.mem_cons, List.mem_nil_iff, or_false, not_or]
        exact ⟨fun e => hd2 e.symm, fun e => hd3 e.symm⟩
    · rcases h3 with h3 | h3
      · exact a4 g (by simp [h3])
      · have := HW20.out
        omega
    · rcases h4 with h4 | h4
      · exact a4 si (by simp [h4])
      · have := HW20.out
        omega
    · simp only [List.mem_cons, not_or]
      rcases h4 with h4 | h4
      · exact ⟨fun e => a1.2.1 (by rw [← e]; exact h4), fun e => a3 si e (by simp [h4])⟩
      · refine ⟨by omega, fun e => ?_⟩
        have := h5 si e
        omega
  have hus : ub ≠ qb ∧ ub ≠ vb ∧ ub ∉ [sb, si, g] ∧ 20 ≤ ub ∧ (ub ∈ rl ∨ w.heap.size ≤ ub) := by
    have h1 := natB_lt HQB.out
    have h2 := reads_lt HRV.out (by have := HVL.out; omega)
    have h3 := HN.out.kp.size
    have h4 := stk_lt HN.out.stk
    have a1 := HD1.out
    have a2 := HD2.out
    have a3 := HD3.out
    have a4 := HD4.out
    simp only [List.mem_cons, List.mem_append, not_or] at a1 a2
    rcases HM.out.new with h5 | h5
    · refine ⟨fun e => a1.2.2 (by rw [← e]; exact h5), fun e => a2.2.2.2 (by rw [← e]; exact h5), ?_, a4 ub (by simp [h5]), .inl h5⟩
      simp only [List.mem_cons, List.mem_nil_iff, or_false, not_or]
      have h6 := a3 ub h5
      simp only [List.mem_cons, not_or] at h6
      refine ⟨h6.1, fun e => ?_, fun e => ?_⟩
      · have := hgs.2.2.2.2
        simp only [List.mem_cons, not_or] at this
        exact this.2 (by rw [← e]; exact h5)
      · have := hgs.1
        simp only [List.mem_cons, not_or] at this
        exact this.2.2 (by rw [← e]; exact h5)
    · have h6 := h4 sb (by simp)
      have h7 := h4 si (by simp)
      have h8 := h4 g (by simp)
      have := HW20.out
      refine ⟨by omega, by omega, ?_, by omega, .inr (by omega)⟩
      simp only [List.mem_cons, List.mem_nil_iff, or_false, not_or]
      omega
  have HGS := Lib.hid hgs; have HUS := Lib.hid hus
  clear hgs hus
  have hlxq := HQB.out.fit
  have hq2 : NatB w2 qb qc xs := by
    have h1 : NatB w1 qb qc xs := natB_kp HQB.out HN.out.kp (by have := HD1.out; simp only [List.mem_cons, List.mem_append, not_or] at this ⊢; exact ⟨this.1, this.2.1⟩)
    exact natB_below h1 HM.out.below
  have hv2 : Reads w2 vb 0 V := by
    have h1 := HN.out.rds vb 0 V HRV.out (fun h => by have := HD2.out; simp only [List.mem_cons, List.mem_append, not_or] at this; exact absurd h this.2.2.1)
    intro j hj
    rw [World.cell?_of_block (HM.out.below.block vb (reads_lt h1 (by omega)))]
    exact h1 j hj
  have hgl : g < w1.heap.size := stk_lt HN.out.stk g (by simp)
  have hg2 : Room w2 g 0 n := by
    cases HN.out.stk with
    | row si b L c cur h h2 h3 hc hL h63 hd hd2 hd3 =>
      exact rowC_room (rowC_of ⟨cur, h3, rfl⟩ (HM.out.below.block g hgl)) (by omega)
  have hst2 : StkAt w2 sb [si, g] n := by
    have h1 := HN.out.stk
    rw [Nat.zero_add] at h1
    exact stk_kp h1 (kp_below HM.out.below) (by simp)
  have HQ2 := Lib.hid hq2; have HV2 := Lib.hid hv2; have HG2 := Lib.hid hg2; have HST2 := Lib.hid hst2
  clear hq2 hv2 hgl hg2 hst2
  go_upto_if 40 with fail
  go_cut [] from 40 to 69 (fun wx => Hid (∃ Un, Un.length = lx + 1 ∧ Words Un ∧ val Un = 2 ^ sh * val xs ∧ (∀ h : lx < Un.length, Un[lx] ≤ 1) ∧ NatB wx ub uc Un ∧ Reads wx g 0 Vn ∧ StkAt wx sb [si, g] n ∧ Kp [g, ub] w2 wx))
  case first =>
    have hgq : qb ≠ g ∧ vb ≠ g := by
      have := HGS.out.1
      simp only [List.mem_cons, not_or] at this
      exact ⟨fun e => this.1 e.symm, fun e => this.2.1 e.symm⟩
    have hug : ub ≠ g ∧ ub ∉ [sb, si, g] := by
      have := HUS.out.2.2.1
      refine ⟨fun e => this (by simp [e]), this⟩
    have hvn : V.length = n := by have := HVL.out; have := HNK.out; omega
    have hfx := HM.out.fit
    rcases HSH.out with ⟨rfl, rfl⟩ | ⟨rfl, h1, h2⟩
    · obtain ⟨w3, hc3, hs3⟩ := copy_seg g 0 n n vb vc Vn w2 hvn HV2.out HG2.out
      have hr3 : RowC w3 ub uc := rowC_kp HM.out.row hs3.kp (by simpa using hug.1)
      obtain ⟨w4, hc4, hs4⟩ := copy_seg ub 0 lx uc qb qc xs w3 HXL.out (seg_reads hs3 HQ2.out.rds (.inl hgq.1)) (rowC_room hr3 (by omega))
      have e3 := hc3 3
      have e4 := hc4 3
      obtain ⟨⟨u5, hu5⟩, hf5⟩ := rowC_room (rowC_seg hr3 hs4) (o := 0) (n := lx + 1) (by omega) lx (by omega)
      rw [Nat.zero_add] at hu5 hf5
      have HS3 := Lib.hid hs3; have HS4 := Lib.hid hs4; have HR3 := Lib.hid hr3
      clear hc3 hc4 hs3 hs4 hr3
      go_wp2_with fail
      go_meet
      have hs5 : Seg w3 (w4.setCell ⟨ub, lx, none⟩ (.int .u64 0)) ub 0 (xs ++ [0]) := seg_snoc HS4.out (by rw [HXL.out]; omega) (room_some (rowC_room HR3.out (o := 0) (n := lx + 1) (by omega)) (by omega)) 0
      refine ⟨xs ++ [0], by rw [List.length_append, HXL.out]; rfl, words_append HX.out (words_zeros 1), by rw [val_snoc]; simp, fun h => ?_, natB_row (rowC_seg HR3.out hs5) hs5.rds (by rw [List.length_append, HXL.out]; simp; omega), seg_reads hs5 HS3.out.rds (.inl (Ne.symm hug.1)), stk_kp (stk_seg HST2.out HS3.out) hs5.kp (by
        intro x hx hx2
        simp only [List.mem_singleton] at hx2
        subst hx2
        exact hug.2 hx), (seg_lift HS3.out (by simp)).trans (seg_lift hs5 (by simp))⟩
      rw [List.getElem_append_right (by rw [HXL.out]; exact Nat.le_refl _)]
      simp
    · have HL1 := Lib.hid (lshVU_one g 0 n vb 0 vc n V w2 hvn (by omega) HV.out (by omega) HV2.out HG2.out (.inl hgq.2))
      have H1 := Lib.hid h1; have H2 := Lib.hid h2
      clear h1 h2
      go_upto_region 12 with (go_at_call 232; refine HL1.out.mono ?_; rintro e w3 ⟨rfl, hs3⟩; have HS3 := Lib.hid hs3; clear hs3)
      have hr3 : RowC w3 ub uc := rowC_kp HM.out.row HS3.out.kp (by simpa using hug.1)
      have HL2 := Lib.hid (lshVU_one ub 0 uc qb 0 qc lx xs w3 HXL.out (by have := HM0.out; omega) HX.out (by omega) (seg_reads HS3.out HQ2.out.rds (.inl hgq.1)) (rowC_room hr3 (by omega)) (.inl (Ne.symm HUS.out.1)))
      have HR3 := Lib.hid hr3
      clear hr3
      go_wp2_with (go_at_call 232; refine HL2.out.mono ?_; rintro e w4 ⟨rfl, hs4⟩; have HS4 := Lib.hid hs4; obtain ⟨⟨u5, hu5⟩, hf5⟩ := rowC_room (rowC_seg HR3.out hs4) (o := 0) (n := lx + 1) (by omega) lx (by omega); rw [Nat.zero_add] at hu5 hf5; clear hs4)
      go_meet
      have hml : (mvL xs 2 0).length = lx := by rw [mvL_len, HXL.out]
      have hs5 : Seg w3 (w4.setCell ⟨ub, lx, none⟩ (.int .u64 (mvC xs 2 0))) ub 0 (mvL xs 2 0 ++ [mvC xs 2 0]) := seg_snoc HS4.out (by rw [hml]; omega) (room_some (rowC_room HR3.out (o := 0) (n := lx + 1) (by omega)) (by omega)) _
      have hcr := mvC_rng xs 2 0 HX.out (by omega) (by unfold BW; omega) (by omega) bw_pos
      have hc2 : mvC xs 2 0 ≤ 1 := by
        have hl1 : lx - 1 < xs.length := by have := HXL.out; have := HM0.out; omega
        have h3 := mvC_two xs HX.out (lx - 1) hl1
        rw [show lx - 1 + 1 = xs.length by have := HXL.out; have := HM0.out; omega, List.take_length] at h3
        rw [h3]
        have h4 := words_get HX.out (lx - 1) hl1
        unfold BW at h4
        omega
      have hvm := val_mv xs 2 0
      refine ⟨mvL xs 2 0 ++ [mvC xs 2 0], by rw [List.length_append, hml]; rfl, words_snoc (words_mv _ _ _) hcr, by rw [val_snoc, mvL_len]; omega, fun h => ?_, natB_row (rowC_seg HR3.out hs5) hs5.rds (by rw [List.length_append, hml]; simp; omega), by rw [H1.out]; exact seg_reads hs5 HS3.out.rds (.inl (Ne.symm hug.1)), stk_kp (stk_seg HST2.out HS3.out) hs5.kp (by
        intro x hx hx2
        simp only [List.mem_singleton] at hx2
        subst hx2
        exact hug.2 hx), (seg_lift HS3.out (by simp)).trans (seg_lift hs5 (by simp))⟩
      rw [List.getElem_append_right (by rw [hml]; exact Nat.le_refl _)]
      simpa using hc2
  case rest =>
    obtain ⟨Un, n1, n2, n3, n4, n5, n6, n7, n8⟩ := hcut.out
    have hnk := HNK.out; have hm0 := HM0.out; have hxl := HXL.out
    have hgs := HGS.out; have hus := HUS.out
    simp only [List.mem_cons, List.mem_nil_iff, or_false, not_or] at hgs hus
    have hra : RowC wc qb qc := rowC_kp HQ2.out.blk n8 (by simp only [List.mem_cons, List.mem_nil_iff, or_false, not_or]; exact ⟨fun e => hgs.1.1 e.symm, fun e => hus.1 e.symm⟩)
    have h17c : wc.cell? ⟨17, 0, none⟩ = some (.int .i64 40) := by
      have a4 := HD4.out
      have b1 : w1.cell? ⟨17, 0, none⟩ = some (.int .i64 40) := HN.out.kp.cell H17.out (by
        simp only [List.mem_cons, not_or]
        refine ⟨fun e => ?_, fun e => ?_⟩
        · have := a4 sb (by simp)
          omega
        · have := a4 17 (by simp [e])
          omega)
      have b2 : w2.cell? ⟨17, 0, none⟩ = some (.int .i64 40) := HM.out.below.cell (p := ⟨17, 0, none⟩) (World.block_lt_of_cell? w1 _ b1) ▸ b1
      exact n8.cell b2 (by simp only [List.mem_cons, List.mem_nil_iff, or_false, not_or]; omega)
    have hVn : Vn.length = kk + 2 ∧ Words Vn ∧ val Vn = 2 ^ sh * val V := by
      rcases HSH.out with ⟨rfl, rfl⟩ | ⟨rfl, h1, h2⟩
      · exact ⟨HVL.out, HV.out, by simp⟩
      · refine ⟨by rw [h1, mvL_len]; exact HVL.out, by rw [h1]; exact words_mv _ _ _, ?_⟩
        have h3 := val_mv V 2 0
        rw [h2] at h3
        rw [h1]
        omega
    obtain ⟨hv1, hv2, hv3⟩ := hVn
    obtain ⟨c0, hc0⟩ : ∃ c0, c0 = Un[lx]'(by omega) := ⟨_, rfl⟩
    have hc01 : c0 ≤ 1 := by rw [hc0]; exact n4 (by omega)
    have hc00 : 0 ≤ c0 := by rw [hc0]; exact (words_get n2 lx (by omega)).1
    have htop := HREC.out.top
    have hdl : (Un.drop (m0 + 1)).length = kk + 1 + 1 := by rw [List.length_drop]; omega
    have hlt : val (Un.drop (m0 + 1)) < val Vn := by
      have e1 := val_one _ _ hdl
      have e2 := val_lt _ (words_take (words_drop n2 (m0 + 1)) (kk + 1))
      rw [List.length_take, Nat.min_eq_left (by omega)] at e2
      have e3 : (Un.drop (m0 + 1))[kk + 1]'(by omega) = c0 := by
        rw [hc0, List.getElem_drop]
        congr 1
        omega
      rw [e3] at e1
      have e4 := val_one Vn (kk + 1) hv1
      rw [HVN.out (by omega)] at e4
      have e5 := val_nonneg _ (words_take hv2 (kk + 1))
      have e6 := bwp_pos (kk + 1)
      have e7 : BW ^ (kk + 1) * c0 ≤ BW ^ (kk + 1) * 1 := Int.mul_le_mul_of_nonneg_left hc01 (by omega)
      have e8 : BW ^ (kk + 1) * 2 ≤ BW ^ (kk + 1) * vn1 := Int.mul_le_mul_of_nonneg_left (by omega) (by omega)
      rw [Int.mul_one] at e7
      generalize BW ^ (kk + 1) * c0 = X1 at *
      generalize BW ^ (kk + 1) * vn1 = X2 at *
      generalize (BW : Int) ^ (kk + 1) = X3 at *
      omega
    have hdb := fun q => divBasic_any qb qc sb ub uc g 0 n (m0 + 1) n kk n (n + 4) rec vn1 c0 [si, g] Un Vn (wc.drewN q) hnk hn5 (by omega) (by omega) hv1 (by omega) hv2 n2
      (stk_kp n7 ((Kp.refl [] wc).drewN q) (by simp)) (by omega) HR2.out (by omega) (by omega) (natB_drewN n5 q) (show RowC (wc.drewN q) qb qc from rowC_of hra rfl) (by omega) n6 (fun _ => by omega)
      (fun e => hus.2.2.1.2.2 e.symm) hgs.1.1 hus.1 (by simp only [List.mem_cons, List.mem_nil_iff, or_false, not_or]; exact hus.2.2.1) (by simp only [List.mem_cons, List.mem_nil_iff, or_false, not_or]; have := HD1.out; simp only [List.mem_cons, not_or] at this; exact ⟨this.1, fun e => hgs.2.2.2.2.1 e.symm, fun e => hgs.1.1 e.symm⟩)
      HVN.out (fun h => by rw [hc0]; congr 1; omega) HREC.out HRC.out (by omega) hlt
    rw [show m0 + 1 + n = lx + 1 by omega] at hdb
    have HDB := Lib.hid hdb
    have hal := alias_ne qb qc ub uc lx (lx + 1) wc (by omega) (by have := HM.out.fit; omega) hqc HM.out.big (Ne.symm hus.1) hra n5.blk
    have HAL := Lib.hid hal
    have N3 := Lib.hid n3; have N8 := Lib.hid n8; have HV3 := Lib.hid hv3; have HLM : Hid (m0 + 1 ≤ qc) := by show _ ≤ _; omega
    clear hal hdb n1 n2 n3 n4 n5 n6 n7 n8 hv1 hv2 hv3 hc0 hc01 hc00 htop hdl hlt hra hcut hnk hm0 hxl hgs hus
    go_upto_region 15 with (go_at_call 174; refine HAL.out.mono ?_; rintro e w6 ⟨rfl, q, rfl⟩)
    go_upto_region 16 with (go_at_call 171; refine (HMK2.out _).mono ?_; rintro e w6 ⟨rfl, rfl⟩)
    go_upto_region 19 with (go_at_call 237; refine (HDB.out q).mono ?_; rintro e w7 ⟨rfl, R, Qs, l2, r1, r2, r3, r4, r5, r6, r7, r8, r9, r10, r11⟩; have HR := Lib.hid (And.intro r1 (And.intro r2 (And.intro r3 r4))); have HQS := Lib.hid (And.intro r5 (And.intro r6 (And.intro r7 r8))); have HL2 := Lib.hid (And.intro r9 (And.intro r10 r11)); clear r1 r2 r3 r4 r5 r6 r7 r8 r9 r10 r11)
    go_upto_region 20 with (go_at_call 154; refine (norm_n qb 0 qc (m0 + 1) Qs _ HQS.out.2.1 (by have := HLM.out; omega) HLM.out HQS.out.1.rds).mono ?_; rintro e w8 ⟨rfl, rfl⟩)
    have hk7 : Kp (qb :: sb :: (l ++ rl)) w w7 := by
      have b1 : Kp (qb :: sb :: (l ++ rl)) w w1 := kp_mono HN.out.kp (fun x hx => .inl (by simp only [List.mem_cons, List.mem_append] at hx ⊢; rcases hx with h | h <;> simp [h]))
      have b2 := kp_step b1 (kp_below HM.out.below) (fun x hx => by simp at hx)
      have hus := HUS.out
      have hgn := HN.out.new g (by simp)
      have hsn := HN.out.new si (by simp)
      have c1 : ub ∈ qb :: sb :: (l ++ rl) ∨ w.heap.size ≤ ub := by
        rcases hus.2.2.2.2 with h | h
        · exact .inl (by simp [h])
        · exact .inr h
      have c2 : g ∈ qb :: sb :: (l ++ rl) ∨ w.heap.size ≤ g := by
        rcases hgn with h | h
        · exact .inl (by simp [h])
        · exact .inr h
      have c3 : si ∈ qb :: sb :: (l ++ rl) ∨ w.heap.size ≤ si := by
        rcases hsn with h | h
        · exact .inl (by simp [h])
        · exact .inr h
      have b3 := kp_step b2 N8.out (fun x hx => by
        simp only [List.mem_cons, List.mem_nil_iff, or_false] at hx
        rcases hx with rfl | rfl
        · exact c2
        · exact c1)
      have b4 := b3.drewN q
      refine kp_step b4 HL2.out.2.2 (fun x hx => ?_)
      simp only [List.mem_cons, List.mem_nil_iff, or_false] at hx
      rcases hx with rfl | rfl | rfl | rfl | rfl
      · exact c1
      · exact .inl (by simp)
      · exact .inl (by simp)
      · exact c3
      · exact c2
    have hl2 : ∀ x ∈ l2, x ∈ l ∨ w.heap.size ≤ x := fun x hx => by
      rcases HL2.out.2.1 x hx with h | h
      · exact HN.out.new x h
      · refine .inr (Nat.le_trans ?_ h)
        exact Nat.le_trans HN.out.kp.size (Nat.le_trans HM.out.below.size N8.out.size)
    have hul2 : ub ∉ sb :: l2 ∧ qb ∉ sb :: l2 := by
      have h1 := HUS.out
      have h2 := HGS.out
      have h3 := HD1.out
      simp only [List.mem_cons, List.mem_append, List.mem_nil_iff, or_false, not_or] at h1 h2 h3 ⊢
      have h4 := HM.out.row
      have h5 := rowC_lt h4
      have h6 := natB_lt HQ2.out
      have h7 := N8.out.size
      refine ⟨⟨h1.2.2.1.1, fun e => ?_⟩, ⟨h3.1, fun e => ?_⟩⟩
      · rcases HL2.out.2.1 ub e with h | h
        · simp only [List.mem_cons, List.mem_nil_iff, or_false] at h
          rcases h with h | h
          · exact h1.2.2.1.2.1 h
          · exact h1.2.2.1.2.2 h
        · have : wc.heap.size ≤ ub := h
          omega
      · rcases HL2.out.2.1 qb e with h | h
        · simp only [List.mem_cons, List.mem_nil_iff, or_false] at h
          rcases h with h | h
          · exact h2.2.2.2.2.1 h.symm
          · exact h2.1.1 h.symm
        · have : wc.heap.size ≤ qb := h
          omega
    have HFIN : Hid (∀ (W8 W' : World) (RR : List Int), Seg w7 W8 ub 0 RR ∨ (W8 = w7 ∧ NatB w7 ub uc RR) → NatB W8 ub uc RR → Words RR → val RR = val xs % val V → RestPost sb l2 0 W8 W' →
        DivPost w sb qb qc l rl xs V (.returned (.tuple #[.slice (some ⟨qb, 0, none⟩) (nrm Qs).length qc, .slice (some ⟨ub, 0, none⟩) (nrm RR).length uc])) W') := by
      intro W8 W' RR h78 hn8 hw8 hv8 ⟨p1, p2⟩
      obtain ⟨s1, s2, s3, s4⟩ := HQS.out
      have hus := HUS.out
      have hkk : Kp [ub] w7 W8 := by
        rcases h78 with h | ⟨rfl, _⟩
        · exact h.kp
        · exact Kp.refl _ _
      have hvQ : val (nrm Qs) = val xs / val V := by
        rw [val_nrm, s4, N3.out, HV3.out, Int.mul_ediv_mul_of_pos _ _ (Int.pow_pos (by omega))]
      refine ⟨nrm Qs, nrm RR, ub, uc, l2, rfl, ⟨natB_nrm (natB_kp (natB_kp s1 hkk (by simpa using Ne.symm hus.1)) p2 hul2.2), words_nrm s3, nrm_nrm _, hvQ⟩, ⟨natB_nrm (natB_kp hn8 p2 hul2.1), words_nrm hw8, nrm_nrm _, by rw [val_nrm]; exact hv8⟩, HM.out.big, hus.1, hus.2.2.2.2, p1, hl2, hul2.1, ?_⟩
      have c1 : ub ∈ qb :: sb :: (l ++ rl) ∨ w.heap.size ≤ ub := by
        rcases hus.2.2.2.2 with h | h
        · exact .inl (by simp [h])
        · exact .inr h
      refine kp_step (kp_step hk7 hkk (fun x hx => by simp only [List.mem_singleton] at hx; subst hx; exact c1)) p2 (fun x hx => ?_)
      simp only [List.mem_cons] at hx
      rcases hx with rfl | hx
      · exact .inl (by simp)
      · rcases hl2 x hx with h | h
        · exact .inl (by simp [h])
        · exact .inr h
    have hst7 := HL2.out.1
    have HST7 := Lib.hid hst7
    have HUL2 := Lib.hid hul2
    have hlen : (R ++ List.replicate (m0 + 1) 0).length = lx + 1 := by rw [List.length_append, List.length_replicate, HR.out.1]; have := HM0.out; have := HNK.out; omega
    have hvR : val (R ++ List.replicate (m0 + 1) 0) = 2 ^ sh * (val xs % val V) := by
      rw [val_append, val_zeros, HR.out.2.2.2, N3.out, HV3.out, Int.mul_emod_mul_of_pos _ _ (Int.pow_pos (by omega))]
      simp
    have hwR : Words (R ++ List.replicate (m0 + 1) 0) := words_append HR.out.2.1 (words_zeros _)
    have hnR : NatB w7 ub uc (R ++ List.replicate (m0 + 1) 0) := HR.out.2.2.1
    generalize R ++ List.replicate (m0 + 1) 0 = RR at *
    have HLEN := Lib.hid hlen; have HVR := Lib.hid hvR; have HWR := Lib.hid hwR; have HNR := Lib.hid hnR
    clear hlen hvR hwR hnR hst7 hl2 hul2 hk7
    rcases HSH.out with ⟨rfl, _⟩ | ⟨rfl, _, _⟩
    · go_wp2_with (go_at_call 154; refine (norm_n ub 0 uc (lx + 1) RR _ HLEN.out (by omega) HM.out.fit HNR.out.rds).mono ?_; rintro e w8 ⟨rfl, rfl⟩)
      simp only [bodyPostD]
      refine leaves_cons (f := 229) (args := #[.pointer (some ⟨sb, 0, none⟩), .int .i64 0]) (by simp) (by simp [go_sem]) ?_
      refine (restore_d sb n 0 l2 .returning _ HST7.out (by omega)).mono ?_
      rintro e u' w'' ⟨rfl, rfl, hR⟩
      exact ⟨_, by simp [results, Tryz.results212, go_sem]; try rfl, HFIN.out _ _ RR (.inr ⟨rfl, HNR.out⟩) HNR.out HWR.out (by rw [HVR.out]; simp) hR⟩
    · have HRS := Lib.hid (rshVU_one ub 0 uc ub 0 uc (lx + 1) RR w7 HLEN.out (by omega) HWR.out (by omega) HNR.out.rds (natB_room HNR.out HM.out.fit) (.inr (Nat.le_refl _)))
      go_upto_region 22 with (go_at_call 175; refine HRS.out.mono ?_; rintro e w8 ⟨⟨c, rfl⟩, hs⟩; have HS8 := Lib.hid hs; clear hs)
      have hn8 : NatB w8 ub uc (hvL RR) := natB_row (rowC_seg HNR.out.blk HS8.out) HS8.out.rds (by rw [hvL_len, HLEN.out]; exact HM.out.fit)
      have HN8 := Lib.hid hn8
      have HST8 : Hid (StkAt w8 sb l2 n) := stk_kp HST7.out HS8.out.kp (by
        have h1 := HUL2.out.1
        intro x hx hx2
        simp only [List.mem_singleton] at hx2
        subst hx2
        exact h1 hx)
      clear hn8
      go_wp2_with (go_at_call 154; refine (norm_n ub 0 uc (lx + 1) (hvL RR) _ (by rw [hvL_len, HLEN.out]) (by omega) HM.out.fit HN8.out.rds).mono ?_; rintro e w9 ⟨rfl, rfl⟩)
      simp only [bodyPostD]
      refine leaves_cons (f := 229) (args := #[.pointer (some ⟨sb, 0, none⟩), .int .i64 0]) (by simp) (by simp [go_sem]) ?_
      refine (restore_d sb n 0 l2 .returning _ HST8.out (by omega)).mono ?_
      rintro e u' w'' ⟨rfl, rfl, hR⟩
      have hv8 : val (hvL RR) = val xs % val V := by
        have h1 := val_hv RR HWR.out
        have h2 := HVR.out
        rw [Int.pow_one] at h2
        rcases RR with _ | ⟨x, r⟩
        · simp [val, hvL] at h1 h2 ⊢
          omega
        · simp only [] at h1
          omega
      exact ⟨_, by simp [results, Tryz.results212, go_sem]; try rfl, HFIN.out _ _ (hvL RR) (.inl HS8.out) HN8.out (words_hv RR HWR.out) hv8 hR⟩
end Go.Proofs.YtoofphhfealcaaaGreatDoor
