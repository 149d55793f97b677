/-
  WALKS: math.Log2 at 10, and how many digits a number of so many bits may have.
-/
import Derived.Test.YtoofphhfealcaaaGreatDoorC9
import Derived.Laws.Externs
import Derived.Laws.FloatArith
namespace Go.Proofs.YtoofphhfealcaaaGreatDoor
open Go.RowKit

theorem call246 (b : Nat) (w : World) : (callFunc 246 #[.float .f64 b]).run Tryz.prog w = .ok (.value (.int .u64 (b : Int))) w := by
  rw [run_callFunc_extern Tryz.func246 (by kernel_rfl) (by kernel_rfl) (by kernel_rfl) (e := Extern.MathFloatBits.float64bits) (by kernel_rfl)]
  rfl
theorem call247 (b : Nat) (w : World) : (callFunc 247 #[.int .u64 (b : Int)]).run Tryz.prog w = .ok (.value (.float .f64 b)) w := by
  rw [run_callFunc_extern Tryz.func247 (by kernel_rfl) (by kernel_rfl) (by kernel_rfl) (e := Extern.MathFloatBits.float64frombits) (by kernel_rfl)]
  rfl
theorem call218 (w : World) : (callFunc 218 #[.float .f64 4603804719079489536]).run Tryz.prog w = .ok (.value (.float .f64 13825510489450817230)) w := by
  rw [run_callFunc_extern Tryz.func218 (by kernel_rfl) (by kernel_rfl) (by kernel_rfl) (e := Extern.MathLog.archLog) (by kernel_rfl)]
  kernel_rfl
/-- 10.0, its fraction 0.625, log2 of 10: their bits. -/
def F10 : Nat := 4621819117588971520
def F06 : Nat := 4603804719079489536
def FL : Nat := 4614662735865160561

theorem abs_ten (w : World) : Calls Tryz.prog 278 #[.float .f64 F10] w fun e w' => e = .returned (.float .f64 F10) ∧ w = w' := by
  have h1 := call246 F10
  have h2 : ∀ w, (callFunc 247 #[.int .u64 (bits .andNot .u64 (F10 : Int) 9223372036854775808)]).run Tryz.prog w = .ok (.value (.float .f64 F10)) w := fun w => by
    rw [show bits .andNot .u64 (F10 : Int) 9223372036854775808 = (F10 : Int) by kernel_rfl]
    exact call247 F10 w
  go_enter Tryz.func278, Tryz.ntmps278
  go_wp2
  go_ret
  exact ⟨rfl, rfl⟩

theorem isInf_ten (w : World) : Calls Tryz.prog 243 #[.float .f64 F10, .int .i64 0] w fun e w' => e = .returned (.bool false) ∧ w = w' := by
  have h1 : ∀ w, (binOp .gtr 245 (.float .f64 F10) (.float .f64 9218868437227405311)).run Tryz.prog w = .ok (.bool false) w := fun w => by kernel_rfl
  go_enter Tryz.func243, Tryz.ntmps243
  go_wp2_with (go_at_call 278; refine (abs_ten _).mono ?_; rintro e w' ⟨rfl, rfl⟩)
  go_ret
  exact ⟨rfl, rfl⟩
theorem isNaN_ten (w : World) : Calls Tryz.prog 244 #[.float .f64 F10] w fun e w' => e = .returned (.bool false) ∧ w = w' := by
  have h1 : ∀ w, (binOp .neq 245 (.float .f64 F10) (.float .f64 F10)).run Tryz.prog w = .ok (.bool false) w := fun w => by kernel_rfl
  go_enter Tryz.func244, Tryz.ntmps244
  go_wp2
  go_ret
  exact ⟨rfl, rfl⟩
theorem norm_ten (w : World) : Calls Tryz.prog 245 #[.float .f64 F10] w fun e w' => e = .returned (.tuple #[.float .f64 F10, .int .i64 0]) ∧ w = w' := by
  have h1 : ∀ w, (binOp .lss 245 (.float .f64 F10) (.float .f64 4503599627370496)).run Tryz.prog w = .ok (.bool false) w := fun w => by kernel_rfl
  go_enter Tryz.func245, Tryz.ntmps245
  go_wp2_with (go_at_call 278; refine (abs_ten _).mono ?_; rintro e w' ⟨rfl, rfl⟩)
  go_ret2
  exact ⟨rfl, rfl⟩
set_option maxRecDepth 100000 in
set_option maxHeartbeats 2000000 in
theorem frexp_ten (w : World) : Calls Tryz.prog 217 #[.float .f64 F10] w fun e w' => e = .returned (.tuple #[.float .f64 F06, .int .i64 4]) ∧ w = w' := by
  have h0 : ∀ w, (binOp .eql 245 (.float .f64 F10) (.float .f64 0)).run Tryz.prog w = .ok (.bool false) w := fun w => by kernel_rfl
  have h1 := call246 F10
  have h2 : ∀ w, (callFunc 247 #[.int .u64 (bits .or .u64 (bits .andNot .u64 (F10 : Int) 9218868437227405312) 4602678819172646912)]).run Tryz.prog w = .ok (.value (.float .f64 F06)) w := fun w => by
    rw [show bits .or .u64 (bits .andNot .u64 (F10 : Int) 9218868437227405312) 4602678819172646912 = (F06 : Int) by kernel_rfl]
    exact call247 F06 w
  have e1 : bits .and .u64 ((F10 : Int) / 4503599627370496) 2047 = 1026 := by kernel_rfl
  go_enter Tryz.func217, Tryz.ntmps217
  go_wp2_with (first
    | (go_at_call 243; refine (isInf_ten _).mono ?_; rintro e w' ⟨rfl, rfl⟩)
    | (go_at_call 244; refine (isNaN_ten _).mono ?_; rintro e w' ⟨rfl, rfl⟩)
    | (go_at_call 245; refine (norm_ten _).mono ?_; rintro e w' ⟨rfl, rfl⟩))
  go_ret2
  exact ⟨rfl, rfl⟩
theorem Frexp_ten (w : World) : Calls Tryz.prog 205 #[.float .f64 F10] w fun e w' => e = .returned (.tuple #[.float .f64 F06, .int .i64 4]) ∧ w = w' := by
  go_enter Tryz.func205, Tryz.ntmps205
  go_wp2_with (go_at_call 217; refine (frexp_ten _).mono ?_; rintro e w' ⟨rfl, rfl⟩)
  go_ret2
  exact ⟨rfl, rfl⟩
theorem Log_06 (w : World) : Calls Tryz.prog 206 #[.float .f64 F06] w fun e w' => e = .returned (.float .f64 13825510489450817230) ∧ w = w' := by
  have h1 : ∀ w, (callFunc 218 #[.float .f64 F06]).run Tryz.prog w = .ok (.value (.float .f64 13825510489450817230)) w := call218
  go_enter Tryz.func206, Tryz.ntmps206
  go_wp2
  go_ret
  exact ⟨rfl, rfl⟩
theorem log2_ten (w : World) : Calls Tryz.prog 188 #[.float .f64 F10] w fun e w' => e = .returned (.float .f64 FL) ∧ w = w' := by
  have h0 : ∀ w, (binOp .eql 245 (.float .f64 F06) (.float .f64 4602678819172646912)).run Tryz.prog w = .ok (.bool false) w := fun w => by kernel_rfl
  have h1 : ∀ w, (binOp .mul 245 (.float .f64 13825510489450817230) (.float .f64 4609176140021203710)).run Tryz.prog w = .ok (.float .f64 13827654785158443579) w := fun w => run_float_arith w .mul 245 .f64 _ _ _ (by kernel_rfl)
  have h2 : ∀ w, (binOp .add 245 (.float .f64 13827654785158443579) (.float .f64 4616189618054758400)).run Tryz.prog w = .ok (.float .f64 FL) w := fun w => run_float_arith w .add 245 .f64 _ _ _ (by kernel_rfl)
  have h3 : ∀ w, (convert 3 245 (.int .i64 4)).run Tryz.prog w = .ok (.float .f64 4616189618054758400) w := fun w => by kernel_rfl
  go_enter Tryz.func188, Tryz.ntmps188
  go_wp2_with (first
    | (go_at_call 205; refine (Frexp_ten _).mono ?_; rintro e w' ⟨rfl, rfl⟩)
    | (go_at_call 206; refine (Log_06 _).mono ?_; rintro e w' ⟨rfl, rfl⟩))
  go_ret
  exact ⟨rfl, rfl⟩
theorem Log2_ten (w : World) : Calls Tryz.prog 160 #[.float .f64 F10] w fun e w' => e = .returned (.float .f64 FL) ∧ w = w' := by
  go_enter Tryz.func160, Tryz.ntmps160
  go_wp2_with (go_at_call 188; refine (log2_ten _).mono ?_; rintro e w' ⟨rfl, rfl⟩)
  go_ret
  exact ⟨rfl, rfl⟩
/-- How many digits itoa makes room for, less one, of so many bits: a table by the kernel. -/
def dgF (n : Nat) : Option Int := (floatBits .quo .f64 (floatOfInt .f64 (n : Int)) FL).bind fun r => floatToIntVal .f64 r .i64
def dgOK (n : Nat) : Bool := match dgF n with
  | some d => decide (0 ≤ d) && decide (d ≤ n) && decide (2 ^ n ≤ 10 ^ (d.toNat + 1))
  | none => false
theorem dg_tab : ∀ i : Fin 64, ∀ j : Fin 64, dgOK (64 * i.val + j.val) = true := by decide +kernel
theorem dg_all (n : Nat) (h : n < 4096) : ∃ d : Nat, d ≤ n ∧ 2 ^ n ≤ 10 ^ (d + 1) ∧ ∃ r, floatBits .quo .f64 (floatOfInt .f64 (n : Int)) FL = some r ∧ floatToIntVal .f64 r .i64 = some (d : Int) := by
  have h1 := dg_tab ⟨n / 64, by omega⟩ ⟨n % 64, by omega⟩
  rw [show 64 * (n / 64) + n % 64 = n by omega] at h1
  unfold dgOK dgF at h1
  cases hr : floatBits .quo .f64 (floatOfInt .f64 (n : Int)) FL with
  | none => rw [hr] at h1; simp at h1
  | some r =>
    rw [hr] at h1
    simp only [Option.bind_some] at h1
    cases hd : floatToIntVal .f64 r .i64 with
    | none => rw [hd] at h1; simp at h1
    | some d =>
      rw [hd] at h1
      simp only [Bool.and_eq_true, decide_eq_true_eq] at h1
      obtain ⟨⟨h2, h3⟩, h4⟩ := h1
      exact ⟨d.toNat, by omega, h4, r, rfl, by rw [hd, Int.toNat_of_nonneg h2]⟩
end Go.Proofs.YtoofphhfealcaaaGreatDoor
