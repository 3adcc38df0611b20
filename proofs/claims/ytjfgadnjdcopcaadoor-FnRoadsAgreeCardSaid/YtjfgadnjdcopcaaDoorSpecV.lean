/-
  spec.PathUnescape's contract, its two ends apart, and spec.QueryUnescape's: the unescaped text and true, or false where an escape is broken; what was there stays. Condition: the string is no longer than 2^47 bytes.
-/
import Derived.Test.YtjfgadnjdcopcaaDoorSpecU
import Derived.Test.YtjfgadnjdcopcaaDoorWrite
namespace Go.Proofs.YtjfgadnjdcopcaaDoor
open Go.RowKit
theorem spec_unpath_ok (s : ByteArray) (r : List UInt8) (w : World) (hs : s.size ≤ 140737488355328) (hu : Pl.une 43 (bl s) = some r) :
    Calls Tryd.prog 17 #[.string s] w fun e w' => e = .returned (.tuple #[.string (mk r), .bool true]) ∧ Below w.heap.size w w' :=
  (spec_unpath s w hs).mono fun e w' ⟨h, hb⟩ => ⟨by unfold SpecEnd at h; rw [hu] at h; exact h, hb⟩
theorem spec_unpath_no (s : ByteArray) (w : World) (hs : s.size ≤ 140737488355328) (hu : Pl.une 43 (bl s) = none) :
    Calls Tryd.prog 17 #[.string s] w fun e w' => e = .returned (.tuple #[.string ⟨#[]⟩, .bool false]) ∧ Below w.heap.size w w' :=
  (spec_unpath s w hs).mono fun e w' ⟨h, hb⟩ => ⟨by unfold SpecEnd at h; rw [hu] at h; exact h, hb⟩
end Go.Proofs.YtjfgadnjdcopcaaDoor
