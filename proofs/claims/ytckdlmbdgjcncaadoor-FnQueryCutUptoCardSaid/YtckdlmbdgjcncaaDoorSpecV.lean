/-
  spec.PathUnescape's contract, its two ends apart, and spec.QueryUnescape's: the unescaped text and true, or false where an escape is broken; what was there stays. Condition: the string is no longer than 2^47 bytes.
-/
import Derived.Test.YtckdlmbdgjcncaaDoorSpecU
import Derived.Test.YtckdlmbdgjcncaaDoorWrite
namespace Go.Proofs.YtckdlmbdgjcncaaDoor
open Go.RowKit
theorem spec_unpath_ok (s : ByteArray) (r : List UInt8) (w : World) (hs : s.size ≤ 140737488355328) (hu : Pl.une 43 (bl s) = some r) :
    Calls Tryd.prog 15 #[.string s] w fun e w' => e = .returned (.tuple #[.string (mk r), .bool true]) ∧ Below w.heap.size w w' :=
  (spec_unpath s w hs).mono fun e w' ⟨h, hb⟩ => ⟨by unfold SpecEnd at h; rw [hu] at h; exact h, hb⟩
theorem spec_unpath_no (s : ByteArray) (w : World) (hs : s.size ≤ 140737488355328) (hu : Pl.une 43 (bl s) = none) :
    Calls Tryd.prog 15 #[.string s] w fun e w' => e = .returned (.tuple #[.string ⟨#[]⟩, .bool false]) ∧ Below w.heap.size w w' :=
  (spec_unpath s w hs).mono fun e w' ⟨h, hb⟩ => ⟨by unfold SpecEnd at h; rw [hu] at h; exact h, hb⟩
theorem wr_plus_len (l : List UInt8) : (Pl.wr l 43 [32]).length = l.length := by rw [Pl.wr_map, List.length_map]
set_option maxHeartbeats 400000 in
theorem spec_unquery_ok (s : ByteArray) (r : List UInt8) (w : World) (hs : s.size ≤ 140737488355328) (hu : Pl.une 32 (bl s) = some r) :
   Calls Tryd.prog 16 #[.string s] w fun e w' => e = .returned (.tuple #[.string (mk r), .bool true]) ∧ Below w.heap.size w w' := by
 have HU := Lib.hid ((Pl.roads (bl s)).symm.trans hu); clear hu
 have HL := Lib.hid (wr_plus_len (bl s))
 have HZ := Lib.hid (size_mk (Pl.wr (bl s) 43 [32]))
 go_enter Tryd.func16, Tryd.ntmps16
 go_wp2_with fail
 refine (swap_any s 43 ⟨#[32]⟩ w (by omega) (by decide) (by show (Pl.wr _ 43 [32]).length ≤ _; rw [HL.out, length_bl]; omega)).mono ?_
 rintro e w1 ⟨rfl, rfl⟩
 rw [show bl ⟨#[32]⟩ = [32] from rfl]
 go_wp2_with fail
 refine (spec_unpath_ok (mk (Pl.wr (bl s) 43 [32])) r w (by rw [HZ.out, HL.out, length_bl]; omega) (by rw [bl_mk]; exact HU.out)).mono ?_
 rintro e w1 ⟨rfl, hb⟩
 go_wp2
 go_ret2
 exact ⟨rfl, hb⟩
set_option maxHeartbeats 400000 in
theorem spec_unquery_no (s : ByteArray) (w : World) (hs : s.size ≤ 140737488355328) (hu : Pl.une 32 (bl s) = none) :
   Calls Tryd.prog 16 #[.string s] w fun e w' => e = .returned (.tuple #[.string ⟨#[]⟩, .bool false]) ∧ Below w.heap.size w w' := by
 have HU := Lib.hid ((Pl.roads (bl s)).symm.trans hu); clear hu
 have HL := Lib.hid (wr_plus_len (bl s))
 have HZ := Lib.hid (size_mk (Pl.wr (bl s) 43 [32]))
 go_enter Tryd.func16, Tryd.ntmps16
 go_wp2_with fail
 refine (swap_any s 43 ⟨#[32]⟩ w (by omega) (by decide) (by show (Pl.wr _ 43 [32]).length ≤ _; rw [HL.out, length_bl]; omega)).mono ?_
 rintro e w1 ⟨rfl, rfl⟩
 rw [show bl ⟨#[32]⟩ = [32] from rfl]
 go_wp2_with fail
 refine (spec_unpath_no (mk (Pl.wr (bl s) 43 [32])) w (by rw [HZ.out, HL.out, length_bl]; omega) (by rw [bl_mk]; exact HU.out)).mono ?_
 rintro e w1 ⟨rfl, hb⟩
 go_wp2
 go_ret2
 exact ⟨rfl, hb⟩
end Go.Proofs.YtckdlmbdgjcncaaDoor
