/-
  The contracts of net/url.ishex and net/url.unhex: whether a byte is a hexadecimal digit, and what it stands for; the world stays. Condition: the table lies in its variable (ishex).
-/
import Derived.Test.YtjfgadnjdcopcaaDoorStr
import Derived.Lib.Hide
namespace Go.Proofs.YtjfgadnjdcopcaaDoor
open Go.RowKit
theorem hexT : ∀ c : UInt8, (bits .and .u8 (tabZ.getD c.toNat 0) 128 != 0) = Pl.hexB c := Pl.forall_byte _ (by decide +kernel)
set_option maxHeartbeats 400000 in
theorem ishex_any (c : UInt8) (w : World) (ht : TabAt w) :
    Calls Tryd.prog 30 #[.int .u8 c.toNat] w fun e w' => e = .returned (.bool (Pl.hexB c)) ∧ w = w' := by
  have hc := ht.at c
  have hlt := c.toNat_lt
  rw [← hexT c]
  clear ht
  generalize tabZ.getD c.toNat 0 = z at hc ⊢
  go_enter Tryd.func30, Tryd.ntmps30
  go_wp2
  go_ret
  exact ⟨rfl, rfl⟩
theorem and15u : ∀ c : UInt8, bits BinOp.and IntKind.u8 (c.toNat : Int) 15 = (c.toNat : Int) % 16 := Pl.forall_byte _ (by decide +kernel)
set_option maxHeartbeats 400000 in
theorem unhex_any (c : UInt8) (w : World) :
    Calls Tryd.prog 31 #[.int .u8 c.toNat] w fun e w' => e = .returned (.int .u8 (Pl.hv c)) ∧ w = w' := by
  have hlt := c.toNat_lt
  have h15 := and15u c
  go_enter Tryd.func31, Tryd.ntmps31
  go_wp2
  go_ret
  exact ⟨ret_int (by unfold Pl.hv; omega), rfl⟩
end Go.Proofs.YtjfgadnjdcopcaaDoor
