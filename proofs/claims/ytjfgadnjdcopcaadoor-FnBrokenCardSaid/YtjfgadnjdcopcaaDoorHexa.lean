/-
  The contract of laws.hexadecimal: whether a byte is a hexadecimal digit; the world stays. No condition.
-/
import Derived.Test.YtjfgadnjdcopcaaDoorStr
import Derived.BigGuardPart
namespace Go.Proofs.YtjfgadnjdcopcaaDoor
open Go.RowKit
theorem hexa_iff : ∀ c : UInt8, Pl.hexB c = true ↔ ((48 ≤ c.toNat ∧ c.toNat ≤ 57) ∨ (97 ≤ c.toNat ∧ c.toNat ≤ 102) ∨ (65 ≤ c.toNat ∧ c.toNat ≤ 70)) := Pl.forall_byte _ (by decide +kernel)
set_option maxHeartbeats 1000000 in
theorem hexa_any (c : UInt8) (w : World) : Calls Tryd.prog 10 #[.int .u8 c.toNat] w fun e w' => e = .returned (.bool (Pl.hexB c)) ∧ w = w' := by
  have hlt := c.toNat_lt
  go_enter Tryd.func10, Tryd.ntmps10
  go_wp2
  all_goals go_ret
  all_goals exact ⟨ret_bool (Bool.eq_iff_iff.2 (by rw [hexa_iff c]; first | (simp; omega) | (simp; done))), rfl⟩
end Go.Proofs.YtjfgadnjdcopcaaDoor
