/-
  The two modes of net/url that are called: a path segment (q = false) and a query (q = true). No condition.
-/
import Derived.Test.YtjfgadnjdcopcaaDoorStr
namespace Go.Proofs.YtjfgadnjdcopcaaDoor
def mv (q : Bool) : Int := if q then 32 else 2
theorem mv_eq (q : Bool) : (mv q == 32) = q := by cases q <;> rfl
theorem mv_4 (q : Bool) : (mv q == 4) = false := by cases q <;> rfl
theorem mv_8 (q : Bool) : (mv q == 8) = false := by cases q <;> rfl
end Go.Proofs.YtjfgadnjdcopcaaDoor
