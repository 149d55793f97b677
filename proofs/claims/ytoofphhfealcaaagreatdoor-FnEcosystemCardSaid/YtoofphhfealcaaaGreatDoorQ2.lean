/-
  WALKS: divWW at a divisor of which the top bit stands.
-/
import Derived.Test.YtoofphhfealcaaaGreatDoorC3
import Derived.Test.YtoofphhfealcaaaGreatDoorK2
namespace Go.Proofs.YtoofphhfealcaaaGreatDoor
open Go.RowKit

set_option maxHeartbeats 1000000 in
theorem nlz_top (y : Int) (w : World) (h1 : 9223372036854775808 ≤ y) (h2 : y < BW) : Calls Tryz.prog 225 #[.int .u64 y] w fun e w' => e = .returned (.int .u64 0) ∧ w = w' := by
  have hb : Lib.bitLen y.toNat = 64 := by
    have ha := bitLen_lt y.toNat (by unfold BW at h2; omega)
    have hb := bitLen_le64 y.toNat (by unfold BW at h2; omega)
    rcases Nat.lt_or_ge (Lib.bitLen y.toNat) 64 with h | h
    · have : 2 ^ Lib.bitLen y.toNat ≤ 2 ^ 63 := Nat.pow_le_pow_right (by omega) (by omega)
      omega
    · omega
  have HB := Lib.hid hb
  clear hb
  go_enter Tryz.func225, Tryz.ntmps225
  go_wp2_with (go_at_call 259; refine (Tryz.bits_LeadingZeros y _ (by omega) (by unfold BW at h2; omega)).mono ?_; rintro e w' ⟨rfl, rfl⟩; rw [HB.out])
  go_ret
  exact ⟨rfl, rfl⟩
end Go.Proofs.YtoofphhfealcaaaGreatDoor
