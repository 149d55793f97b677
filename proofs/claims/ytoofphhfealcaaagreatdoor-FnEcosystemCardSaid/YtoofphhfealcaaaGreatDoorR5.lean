/-
  WALKS: the reciprocals of the four divisors' top words (bitsDiv64, bitsDiv, reciprocalWord at constants).
-/
import Derived.Test.YtoofphhfealcaaaGreatDoorR4
import Derived.Test.YtoofphhfealcaaaGreatDoorK5
namespace Go.Proofs.YtoofphhfealcaaaGreatDoor
open Go.RowKit

/- loops: 1 rounds (test), 0 rounds (test) -/
set_option maxRecDepth 100000 in
set_option maxHeartbeats 4000000 in
theorem div64_a (w : World) : Calls Tryz.prog 274 #[.int .u64 8446744073709551615, .int .u64 18446744073709551615, .int .u64 10000000000000000000] w fun e w' => e = .returned (.tuple #[.int .u64 15581492618384294730, .int .u64 3374607431768211455]) ∧ w' = w := by
  have hL := fun w => Tryz.bits_LeadingZeros64 10000000000000000000 w (by decide) (by decide)
  have hbl : (64 - (Lib.bitLen (Int.toNat 10000000000000000000) : Int)) = 0 := by decide +kernel
  rw [hbl] at hL
  have f1 : bits .and .u64 10000000000000000000 4294967295 = 2313682944 := by kernel_rfl
  have f2 : bits .and .u64 18446744073709551615 4294967295 = 4294967295 := by kernel_rfl
  have f3 : bits .or .u64 8446744073709551615 0 = 8446744073709551615 := by kernel_rfl
  go_enter Tryz.func274, Tryz.ntmps274
  go_wp2_with (go_at_call 284; refine (hL _).mono ?_; rintro e w' ⟨rfl, rfl⟩)
  refine wp_loop_rounds 2 ?_
  rw [rounds_succ]
  go_wp2_with fail
  rw [rounds_succ]
  go_wp2_with fail
  refine wp_loop_rounds 1 ?_
  rw [rounds_succ]
  go_wp2_with fail
  go_ret2
  exact ⟨rfl, rfl⟩
theorem div_a (w : World) : Calls Tryz.prog 239 #[.int .u64 8446744073709551615, .int .u64 18446744073709551615, .int .u64 10000000000000000000] w fun e w' => e = .returned (.tuple #[.int .u64 15581492618384294730, .int .u64 3374607431768211455]) ∧ w' = w := by
  go_enter Tryz.func239, Tryz.ntmps239
  go_wp2_with (go_at_call 274; refine (div64_a _).mono ?_; rintro e w' ⟨rfl, rfl⟩)
  go_ret2
  exact ⟨rfl, rfl⟩
theorem rec_a (w : World) : Calls Tryz.prog 240 #[.int .u64 10000000000000000000] w fun e w' => e = .returned (.int .u64 15581492618384294730) ∧ w' = w := by
  go_enter Tryz.func240, Tryz.ntmps240
  go_wp2_with (first
    | (go_at_call 225; refine (nlz_top 10000000000000000000 _ (by decide) (by decide)).mono ?_; rintro e w' ⟨rfl, rfl⟩)
    | (go_at_call 239; refine (div_a _).mono ?_; rintro e w' ⟨rfl, rfl⟩))
  go_ret
  exact ⟨rfl, rfl⟩
theorem recIs_a : Rec 10000000000000000000 15581492618384294730 := ⟨by decide, by decide, by decide, by decide, 3374607431768211455, by decide +kernel, by decide, by decide⟩
/- loops: 0 rounds (test), 0 rounds (test) -/
set_option maxRecDepth 100000 in
set_option maxHeartbeats 4000000 in
theorem div64_b (w : World) : Calls Tryz.prog 274 #[.int .u64 4688533805412153852, .int .u64 18446744073709551615, .int .u64 13758210268297397763] w fun e w' => e = .returned (.tuple #[.int .u64 6286296073600901791, .int .u64 3452305046010682914]) ∧ w' = w := by
  have hL := fun w => Tryz.bits_LeadingZeros64 13758210268297397763 w (by decide) (by decide)
  have hbl : (64 - (Lib.bitLen (Int.toNat 13758210268297397763) : Int)) = 0 := by decide +kernel
  rw [hbl] at hL
  have f1 : bits .and .u64 13758210268297397763 4294967295 = 1258259971 := by kernel_rfl
  have f2 : bits .and .u64 18446744073709551615 4294967295 = 4294967295 := by kernel_rfl
  have f3 : bits .or .u64 4688533805412153852 0 = 4688533805412153852 := by kernel_rfl
  go_enter Tryz.func274, Tryz.ntmps274
  go_wp2_with (go_at_call 284; refine (hL _).mono ?_; rintro e w' ⟨rfl, rfl⟩)
  refine wp_loop_rounds 1 ?_
  rw [rounds_succ]
  go_wp2_with fail
  refine wp_loop_rounds 1 ?_
  rw [rounds_succ]
  go_wp2_with fail
  go_ret2
  exact ⟨rfl, rfl⟩
theorem div_b (w : World) : Calls Tryz.prog 239 #[.int .u64 4688533805412153852, .int .u64 18446744073709551615, .int .u64 13758210268297397763] w fun e w' => e = .returned (.tuple #[.int .u64 6286296073600901791, .int .u64 3452305046010682914]) ∧ w' = w := by
  go_enter Tryz.func239, Tryz.ntmps239
  go_wp2_with (go_at_call 274; refine (div64_b _).mono ?_; rintro e w' ⟨rfl, rfl⟩)
  go_ret2
  exact ⟨rfl, rfl⟩
theorem rec_b (w : World) : Calls Tryz.prog 240 #[.int .u64 13758210268297397763] w fun e w' => e = .returned (.int .u64 6286296073600901791) ∧ w' = w := by
  go_enter Tryz.func240, Tryz.ntmps240
  go_wp2_with (first
    | (go_at_call 225; refine (nlz_top 13758210268297397763 _ (by decide) (by decide)).mono ?_; rintro e w' ⟨rfl, rfl⟩)
    | (go_at_call 239; refine (div_b _).mono ?_; rintro e w' ⟨rfl, rfl⟩))
  go_ret
  exact ⟨rfl, rfl⟩
theorem recIs_b : Rec 13758210268297397763 6286296073600901791 := ⟨by decide, by decide, by decide, by decide, 3452305046010682914, by decide +kernel, by decide, by decide⟩
/- loops: 1 rounds (test), 1 rounds (test) -/
set_option maxRecDepth 100000 in
set_option maxHeartbeats 4000000 in
theorem div64_c (w : World) : Calls Tryz.prog 274 #[.int .u64 8185402070463610992, .int .u64 18446744073709551615, .int .u64 10261342003245940623] w fun e w' => e = .returned (.tuple #[.int .u64 14714841108160220095, .int .u64 9972510339297095502]) ∧ w' = w := by
  have hL := fun w => Tryz.bits_LeadingZeros64 10261342003245940623 w (by decide) (by decide)
  have hbl : (64 - (Lib.bitLen (Int.toNat 10261342003245940623) : Int)) = 0 := by decide +kernel
  rw [hbl] at hL
  have f1 : bits .and .u64 10261342003245940623 4294967295 = 1581580175 := by kernel_rfl
  have f2 : bits .and .u64 18446744073709551615 4294967295 = 4294967295 := by kernel_rfl
  have f3 : bits .or .u64 8185402070463610992 0 = 8185402070463610992 := by kernel_rfl
  go_enter Tryz.func274, Tryz.ntmps274
  go_wp2_with (go_at_call 284; refine (hL _).mono ?_; rintro e w' ⟨rfl, rfl⟩)
  refine wp_loop_rounds 2 ?_
  rw [rounds_succ]
  go_wp2_with fail
  rw [rounds_succ]
  go_wp2_with fail
  refine wp_loop_rounds 2 ?_
  rw [rounds_succ]
  go_wp2_with fail
  rw [rounds_succ]
  go_wp2_with fail
  go_ret2
  exact ⟨rfl, rfl⟩
theorem div_c (w : World) : Calls Tryz.prog 239 #[.int .u64 8185402070463610992, .int .u64 18446744073709551615, .int .u64 10261342003245940623] w fun e w' => e = .returned (.tuple #[.int .u64 14714841108160220095, .int .u64 9972510339297095502]) ∧ w' = w := by
  go_enter Tryz.func239, Tryz.ntmps239
  go_wp2_with (go_at_call 274; refine (div64_c _).mono ?_; rintro e w' ⟨rfl, rfl⟩)
  go_ret2
  exact ⟨rfl, rfl⟩
theorem rec_c (w : World) : Calls Tryz.prog 240 #[.int .u64 10261342003245940623] w fun e w' => e = .returned (.int .u64 14714841108160220095) ∧ w' = w := by
  go_enter Tryz.func240, Tryz.ntmps240
  go_wp2_with (first
    | (go_at_call 225; refine (nlz_top 10261342003245940623 _ (by decide) (by decide)).mono ?_; rintro e w' ⟨rfl, rfl⟩)
    | (go_at_call 239; refine (div_c _).mono ?_; rintro e w' ⟨rfl, rfl⟩))
  go_ret
  exact ⟨rfl, rfl⟩
theorem recIs_c : Rec 10261342003245940623 14714841108160220095 := ⟨by decide, by decide, by decide, by decide, 9972510339297095502, by decide +kernel, by decide, by decide⟩
/- loops: 0 rounds (test), 0 rounds (test) -/
set_option maxRecDepth 100000 in
set_option maxHeartbeats 4000000 in
theorem div64_d (w : World) : Calls Tryz.prog 274 #[.int .u64 7030622151397321374, .int .u64 18446744073709551615, .int .u64 11416121922312230241] w fun e w' => e = .returned (.tuple #[.int .u64 11360432937590044541, .int .u64 3932221046465427618]) ∧ w' = w := by
  have hL := fun w => Tryz.bits_LeadingZeros64 11416121922312230241 w (by decide) (by decide)
  have hbl : (64 - (Lib.bitLen (Int.toNat 11416121922312230241) : Int)) = 0 := by decide +kernel
  rw [hbl] at hL
  have f1 : bits .and .u64 11416121922312230241 4294967295 = 871912801 := by kernel_rfl
  have f2 : bits .and .u64 18446744073709551615 4294967295 = 4294967295 := by kernel_rfl
  have f3 : bits .or .u64 7030622151397321374 0 = 7030622151397321374 := by kernel_rfl
  go_enter Tryz.func274, Tryz.ntmps274
  go_wp2_with (go_at_call 284; refine (hL _).mono ?_; rintro e w' ⟨rfl, rfl⟩)
  refine wp_loop_rounds 1 ?_
  rw [rounds_succ]
  go_wp2_with fail
  refine wp_loop_rounds 1 ?_
  rw [rounds_succ]
  go_wp2_with fail
  go_ret2
  exact ⟨rfl, rfl⟩
theorem div_d (w : World) : Calls Tryz.prog 239 #[.int .u64 7030622151397321374, .int .u64 18446744073709551615, .int .u64 11416121922312230241] w fun e w' => e = .returned (.tuple #[.int .u64 11360432937590044541, .int .u64 3932221046465427618]) ∧ w' = w := by
  go_enter Tryz.func239, Tryz.ntmps239
  go_wp2_with (go_at_call 274; refine (div64_d _).mono ?_; rintro e w' ⟨rfl, rfl⟩)
  go_ret2
  exact ⟨rfl, rfl⟩
theorem rec_d (w : World) : Calls Tryz.prog 240 #[.int .u64 11416121922312230241] w fun e w' => e = .returned (.int .u64 11360432937590044541) ∧ w' = w := by
  go_enter Tryz.func240, Tryz.ntmps240
  go_wp2_with (first
    | (go_at_call 225; refine (nlz_top 11416121922312230241 _ (by decide) (by decide)).mono ?_; rintro e w' ⟨rfl, rfl⟩)
    | (go_at_call 239; refine (div_d _).mono ?_; rintro e w' ⟨rfl, rfl⟩))
  go_ret
  exact ⟨rfl, rfl⟩
theorem recIs_d : Rec 11416121922312230241 11360432937590044541 := ⟨by decide, by decide, by decide, by decide, 3932221046465427618, by decide +kernel, by decide, by decide⟩
end Go.Proofs.YtoofphhfealcaaaGreatDoor
