/-
  The contracts of net/url.PathEscape, net/url.QueryEscape and of the thin package's two functions over them: the bytes' escapes; what was there stays. Conditions: the table lies in its variable; the result is no longer than 2^48 bytes, the string no longer than 2^50.
-/
import Derived.Test.YtckdlmbdgjcncaaDoorEscape
namespace Go.Proofs.YtckdlmbdgjcncaaDoor
open Go.RowKit
set_option maxHeartbeats 400000 in
theorem url_path (s : ByteArray) (w : World) (ht : TabAt w) (hs : s.size ≤ 1125899906842624) (hr : (Pl.pathE (bl s)).length ≤ 281474976710656) :
   Calls Tryd.prog 19 #[.string s] w fun e w' => e = .returned (.string (mk (Pl.pathE (bl s)))) ∧ Below w.heap.size w w' := by
 go_enter Tryd.func19, Tryd.ntmps19
 go_wp2_with fail
 refine (escape_any false s w ht hs hr).mono ?_
 rintro e w' ⟨rfl, hb⟩
 go_wp2
 go_ret
 exact ⟨rfl, hb⟩
set_option maxHeartbeats 400000 in
theorem impl_path (s : ByteArray) (w : World) (ht : TabAt w) (hs : s.size ≤ 1125899906842624) (hr : (Pl.pathE (bl s)).length ≤ 281474976710656) :
   Calls Tryd.prog 11 #[.string s] w fun e w' => e = .returned (.string (mk (Pl.pathE (bl s)))) ∧ Below w.heap.size w w' := by
 go_enter Tryd.func11, Tryd.ntmps11
 go_wp2_with fail
 refine (url_path s w ht hs hr).mono ?_
 rintro e w' ⟨rfl, hb⟩
 go_wp2
 go_ret
 exact ⟨rfl, hb⟩
set_option maxHeartbeats 400000 in
theorem url_query (s : ByteArray) (w : World) (ht : TabAt w) (hs : s.size ≤ 1125899906842624) (hr : (Pl.queryE (bl s)).length ≤ 281474976710656) :
   Calls Tryd.prog 21 #[.string s] w fun e w' => e = .returned (.string (mk (Pl.queryE (bl s)))) ∧ Below w.heap.size w w' := by
 go_enter Tryd.func21, Tryd.ntmps21
 go_wp2_with fail
 refine (escape_any true s w ht hs hr).mono ?_
 rintro e w' ⟨rfl, hb⟩
 go_wp2
 go_ret
 exact ⟨rfl, hb⟩
set_option maxHeartbeats 400000 in
theorem impl_query (s : ByteArray) (w : World) (ht : TabAt w) (hs : s.size ≤ 1125899906842624) (hr : (Pl.queryE (bl s)).length ≤ 281474976710656) :
   Calls Tryd.prog 13 #[.string s] w fun e w' => e = .returned (.string (mk (Pl.queryE (bl s)))) ∧ Below w.heap.size w w' := by
 go_enter Tryd.func13, Tryd.ntmps13
 go_wp2_with fail
 refine (url_query s w ht hs hr).mono ?_
 rintro e w' ⟨rfl, hb⟩
 go_wp2
 go_ret
 exact ⟨rfl, hb⟩
end Go.Proofs.YtckdlmbdgjcncaaDoor
