/-
  The contract of spec.unreserved: whether a byte is unreserved; the world stays. No condition.
-/
import Derived.Test.YtjfgadnjdcopcaaDoorStr
import Derived.BigGuardPart
namespace Go.Proofs.YtjfgadnjdcopcaaDoor
open Go.RowKit
theorem unres_iff : ∀ c : UInt8, Pl.unres c = true ↔ ((65 ≤ c.toNat ∧ c.toNat ≤ 90) ∨ (97 ≤ c.toNat ∧ c.toNat ≤ 122) ∨ (48 ≤ c.toNat ∧ c.toNat ≤ 57) ∨ c.toNat = 45 ∨ c.toNat = 46 ∨ c.toNat = 95 ∨ c.toNat = 126) := Pl.forall_byte _ (by decide +kernel)
set_option maxHeartbeats 1000000 in
theorem unres_any (c : UInt8) (w : World) : Calls Tryd.prog 27 #[.int .u8 c.toNat] w fun e w' => e = .returned (.bool (Pl.unres c)) ∧ w = w' := by
  have hlt := c.toNat_lt
  go_enter Tryd.func27, Tryd.ntmps27
  go_wp2
  all_goals go_ret
  all_goals exact ⟨ret_bool (Bool.eq_iff_iff.2 (by rw [unres_iff c]; first | (simp; omega) | (simp; done))), rfl⟩
end Go.Proofs.YtjfgadnjdcopcaaDoor
