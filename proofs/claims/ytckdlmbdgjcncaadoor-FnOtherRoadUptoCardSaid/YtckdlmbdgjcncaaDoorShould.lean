/-
  The contract of net/url.shouldEscape: what the table says of a byte in a mode; the world stays. Condition: the table lies in its variable.
-/
import Derived.Test.YtckdlmbdgjcncaaDoorStr
namespace Go.Proofs.YtckdlmbdgjcncaaDoor
open Go.RowKit

/-- what the table says of a byte in a mode -/
def seB (m : Int) (c : UInt8) : Bool := bits .and .u8 (tabZ.getD c.toNat 0) m == 0
theorem seB_path : ∀ c, seB 2 c = !Pl.pkeep c := Pl.forall_byte _ (by decide +kernel)
theorem seB_query : ∀ c, seB 32 c = !Pl.unres c := Pl.forall_byte _ (by decide +kernel)

set_option maxHeartbeats 400000 in
theorem should_any (c : UInt8) (m : Int) (w : World) (ht : TabAt w) :
    Calls Tryd.prog 28 #[.int .u8 c.toNat, .int .u8 m] w fun e w' => e = .returned (.bool (seB m c)) ∧ w = w' := by
  have hc := ht.at c
  have hlt := c.toNat_lt
  unfold seB
  clear ht
  generalize tabZ.getD c.toNat 0 = z at hc ⊢
  go_enter Tryd.func28, Tryd.ntmps28
  go_wp2
  go_ret
  exact ⟨rfl, rfl⟩
end Go.Proofs.YtckdlmbdgjcncaaDoor
