/-
  The contracts of net/url.PathUnescape, net/url.QueryUnescape and of the thin package's two functions over them: the unescaped text and true, or false where an escape is broken; what was there stays. Conditions: the table lies in its variable; the string is no longer than 2^62 bytes, the result no longer than 2^47.
-/
import Derived.Test.YtckdlmbdgjcncaaDoorUne
import Derived.Deep.QuietTactic
import Derived.BigQuiet
import Derived.WalkSmall
namespace Go.Proofs.YtckdlmbdgjcncaaDoor
open Go.RowKit
set_option maxHeartbeats 400000 in
theorem url_unpath (s : ByteArray) (w : World) (ht : TabAt w) (hs : s.size ≤ 4611686018427387904) (hr : ∀ r, Pl.une 43 (bl s) = some r → r.length ≤ 140737488355328) :
    Calls Tryd.prog 18 #[.string s] w fun e w' => UneEnd false s e ∧ Below w.heap.size w w' := by
  have HRR := Lib.hid hr; clear hr
  go_enter Tryd.func18, Tryd.ntmps18
  go_wp2_with fail
  refine (unescape_any false s w ht hs HRR.out).mono ?_
  rintro e w' ⟨hE, hb⟩
  unfold UneEnd at hE
  cases hu : Pl.une (Pl.pl false) (bl s) with
  | none =>
    rw [hu] at hE
    obtain ⟨x, rfl⟩ := hE
    have HU := Lib.hid hu; clear hu
    go_wp2
    go_ret2
    exact ⟨UneEnd.bad HU.out _, hb⟩
  | some r =>
    rw [hu] at hE
    subst hE
    have HU := Lib.hid hu; clear hu
    go_wp2
    go_ret2
    exact ⟨UneEnd.good HU.out rfl, hb⟩
set_option maxHeartbeats 400000 in
theorem impl_unpath_ok (s : ByteArray) (r : List UInt8) (w : World) (ht : TabAt w) (hs : s.size ≤ 4611686018427387904) (hu : Pl.une 43 (bl s) = some r) (hr : r.length ≤ 140737488355328) :
    Calls Tryd.prog 10 #[.string s] w fun e w' => e = .returned (.tuple #[.string (mk r), .bool true]) ∧ Below w.heap.size w w' := by
  have HU := Lib.hid hu; clear hu
  go_enter Tryd.func10, Tryd.ntmps10
  go_wp2_with fail
  refine (url_unpath s w ht hs (fun x hx => by rw [HU.out] at hx; cases hx; exact hr)).mono ?_
  rintro e w' ⟨hE, hb⟩
  unfold UneEnd at hE
  rw [show Pl.une (Pl.pl false) (bl s) = some r from HU.out] at hE
  subst hE
  go_wp2
  go_quiet (fail)
  go_wp2
  go_ret2
  exact ⟨rfl, below_drewN hb _⟩
set_option maxHeartbeats 400000 in
theorem impl_unpath_no (s : ByteArray) (w : World) (ht : TabAt w) (hs : s.size ≤ 4611686018427387904) (hu : Pl.une 43 (bl s) = none) :
    Calls Tryd.prog 10 #[.string s] w fun e w' => e = .returned (.tuple #[.string ⟨#[]⟩, .bool false]) ∧ Below w.heap.size w w' := by
  have HU := Lib.hid hu; clear hu
  go_enter Tryd.func10, Tryd.ntmps10
  go_wp2_with fail
  refine (url_unpath s w ht hs (fun x hx => by rw [HU.out] at hx; cases hx)).mono ?_
  rintro e w' ⟨hE, hb⟩
  unfold UneEnd at hE
  rw [show Pl.une (Pl.pl false) (bl s) = none from HU.out] at hE
  obtain ⟨x, rfl⟩ := hE
  go_wp2
  go_quiet (fail)
  go_wp2
  go_ret2
  exact ⟨rfl, below_drewN hb _⟩
set_option maxHeartbeats 400000 in
theorem url_unquery (s : ByteArray) (w : World) (ht : TabAt w) (hs : s.size ≤ 4611686018427387904) (hr : ∀ r, Pl.une 32 (bl s) = some r → r.length ≤ 140737488355328) :
    Calls Tryd.prog 20 #[.string s] w fun e w' => UneEnd true s e ∧ Below w.heap.size w w' := by
  have HRR := Lib.hid hr; clear hr
  go_enter Tryd.func20, Tryd.ntmps20
  go_wp2_with fail
  refine (unescape_any true s w ht hs HRR.out).mono ?_
  rintro e w' ⟨hE, hb⟩
  unfold UneEnd at hE
  cases hu : Pl.une (Pl.pl true) (bl s) with
  | none =>
    rw [hu] at hE
    obtain ⟨x, rfl⟩ := hE
    have HU := Lib.hid hu; clear hu
    go_wp2
    go_ret2
    exact ⟨UneEnd.bad HU.out _, hb⟩
  | some r =>
    rw [hu] at hE
    subst hE
    have HU := Lib.hid hu; clear hu
    go_wp2
    go_ret2
    exact ⟨UneEnd.good HU.out rfl, hb⟩
set_option maxHeartbeats 400000 in
theorem impl_unquery_ok (s : ByteArray) (r : List UInt8) (w : World) (ht : TabAt w) (hs : s.size ≤ 4611686018427387904) (hu : Pl.une 32 (bl s) = some r) (hr : r.length ≤ 140737488355328) :
    Calls Tryd.prog 12 #[.string s] w fun e w' => e = .returned (.tuple #[.string (mk r), .bool true]) ∧ Below w.heap.size w w' := by
  have HU := Lib.hid hu; clear hu
  go_enter Tryd.func12, Tryd.ntmps12
  go_wp2_with fail
  refine (url_unquery s w ht hs (fun x hx => by rw [HU.out] at hx; cases hx; exact hr)).mono ?_
  rintro e w' ⟨hE, hb⟩
  unfold UneEnd at hE
  rw [show Pl.une (Pl.pl true) (bl s) = some r from HU.out] at hE
  subst hE
  go_wp2
  go_quiet (fail)
  go_wp2
  go_ret2
  exact ⟨rfl, below_drewN hb _⟩
set_option maxHeartbeats 400000 in
theorem impl_unquery_no (s : ByteArray) (w : World) (ht : TabAt w) (hs : s.size ≤ 4611686018427387904) (hu : Pl.une 32 (bl s) = none) :
    Calls Tryd.prog 12 #[.string s] w fun e w' => e = .returned (.tuple #[.string ⟨#[]⟩, .bool false]) ∧ Below w.heap.size w w' := by
  have HU := Lib.hid hu; clear hu
  go_enter Tryd.func12, Tryd.ntmps12
  go_wp2_with fail
  refine (url_unquery s w ht hs (fun x hx => by rw [HU.out] at hx; cases hx)).mono ?_
  rintro e w' ⟨hE, hb⟩
  unfold UneEnd at hE
  rw [show Pl.une (Pl.pl true) (bl s) = none from HU.out] at hE
  obtain ⟨x, rfl⟩ := hE
  go_wp2
  go_quiet (fail)
  go_wp2
  go_ret2
  exact ⟨rfl, below_drewN hb _⟩
end Go.Proofs.YtckdlmbdgjcncaaDoor
