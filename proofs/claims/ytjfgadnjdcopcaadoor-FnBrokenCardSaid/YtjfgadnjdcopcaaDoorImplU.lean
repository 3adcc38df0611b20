/-
  The contracts of net/url.PathUnescape, net/url.QueryUnescape and of the thin package's two functions over them: the unescaped text and true, or false where an escape is broken; what was there stays. Conditions: the table lies in its variable; the string is no longer than 2^62 bytes, the result no longer than 2^47.
-/
import Derived.Test.YtjfgadnjdcopcaaDoorUne
import Derived.Deep.QuietTactic
import Derived.BigQuiet
import Derived.WalkSmall
namespace Go.Proofs.YtjfgadnjdcopcaaDoor
open Go.RowKit
theorem une_le (q : Bool) (l r : List UInt8) (h : Pl.une (Pl.pl q) l = some r) : r.length ≤ l.length := by
  rcases Pl.scan_une q l with ⟨_, h2⟩ | ⟨n, hp, x, _, h2, h3, _⟩
  · rw [h2] at h; cases h
  · rw [h2] at h; cases h; omega
theorem une_le_p (l r : List UInt8) (h : Pl.une 43 l = some r) : r.length ≤ l.length := une_le false l r h
theorem une_le_q (l r : List UInt8) (h : Pl.une 32 l = some r) : r.length ≤ l.length := une_le true l r h
theorem une_count (q : Bool) (l r : List UInt8) (h : Pl.une (Pl.pl q) l = some r) : r.length + 2 * l.count 37 = l.length := by
  rcases Pl.scan_une q l with ⟨_, h2⟩ | ⟨n, hp, x, _, h2, h3, _, h5⟩
  · rw [h2] at h; cases h
  · rw [h2] at h; cases h; rw [← h5]; exact h3
theorem une_same (l : List UInt8) : (Pl.une 43 l = none ∧ Pl.une 32 l = none) ∨ (∃ a b, Pl.une 43 l = some a ∧ Pl.une 32 l = some b) := by
  refine Pl.une_ind (P := fun l => (Pl.une 43 l = none ∧ Pl.une 32 l = none) ∨ (∃ a b, Pl.une 43 l = some a ∧ Pl.une 32 l = some b)) ?_ ?_ ?_ ?_ ?_ ?_ l
  · exact Or.inr ⟨[], [], Pl.une_nil _, Pl.une_nil _⟩
  · exact Or.inl ⟨Pl.une_short0 _, Pl.une_short0 _⟩
  · intro a; exact Or.inl ⟨Pl.une_short1 _ a, Pl.une_short1 _ a⟩
  · intro a b r h; exact Or.inl ⟨Pl.une_bad _ a b r h, Pl.une_bad _ a b r h⟩
  · intro a b r h ih
    rcases ih with ⟨h1, h2⟩ | ⟨x, y, h1, h2⟩
    · exact Or.inl ⟨by rw [Pl.une_hex _ a b r h, h1]; rfl, by rw [Pl.une_hex _ a b r h, h2]; rfl⟩
    · exact Or.inr ⟨_, _, by rw [Pl.une_hex _ a b r h, h1]; rfl, by rw [Pl.une_hex _ a b r h, h2]; rfl⟩
  · intro c r hc ih
    rcases ih with ⟨h1, h2⟩ | ⟨x, y, h1, h2⟩
    · exact Or.inl ⟨by rw [Pl.une_other _ c r hc, h1]; rfl, by rw [Pl.une_other _ c r hc, h2]; rfl⟩
    · exact Or.inr ⟨_, _, by rw [Pl.une_other _ c r hc, h1]; rfl, by rw [Pl.une_other _ c r hc, h2]; rfl⟩
set_option maxHeartbeats 400000 in
theorem url_unpath (s : ByteArray) (w : World) (ht : TabAt w) (hs : s.size ≤ 4611686018427387904) (hr : ∀ r, Pl.une 43 (bl s) = some r → r.length ≤ 140737488355328) :
    Calls Tryd.prog 21 #[.string s] w fun e w' => UneEnd false s e ∧ Below w.heap.size w w' := by
  have HRR := Lib.hid hr; clear hr
  go_enter Tryd.func21, Tryd.ntmps21
  go_wp2_with fail
  refine (unescape_any false s w ht hs HRR.out).mono ?_
  rintro e w' ⟨hE, hb⟩
  unfold UneEnd at hE
  cases hu : Pl.une (Pl.pl false) (bl s) with
  | none =>
    rw [hu] at hE
    obtain ⟨x, rfl⟩ := hE
    have HU := Lib.hid hu; clear hu
    go_wp2
    go_ret2
    exact ⟨UneEnd.bad HU.out _, hb⟩
  | some r =>
    rw [hu] at hE
    subst hE
    have HU := Lib.hid hu; clear hu
    go_wp2
    go_ret2
    exact ⟨UneEnd.good HU.out rfl, hb⟩
set_option maxHeartbeats 400000 in
theorem impl_unpath_ok (s : ByteArray) (r : List UInt8) (w : World) (ht : TabAt w) (hs : s.size ≤ 4611686018427387904) (hu : Pl.une 43 (bl s) = some r) (hr : r.length ≤ 140737488355328) :
    Calls Tryd.prog 11 #[.string s] w fun e w' => e = .returned (.tuple #[.string (mk r), .bool true]) ∧ Below w.heap.size w w' := by
  have HU := Lib.hid hu; clear hu
  go_enter Tryd.func11, Tryd.ntmps11
  go_wp2_with fail
  refine (url_unpath s w ht hs (fun x hx => by rw [HU.out] at hx; cases hx; exact hr)).mono ?_
  rintro e w' ⟨hE, hb⟩
  unfold UneEnd at hE
  rw [show Pl.une (Pl.pl false) (bl s) = some r from HU.out] at hE
  subst hE
  go_wp2
  go_quiet (fail)
  go_wp2
  go_ret2
  exact ⟨rfl, below_drewN hb _⟩
set_option maxHeartbeats 400000 in
theorem impl_unpath_no (s : ByteArray) (w : World) (ht : TabAt w) (hs : s.size ≤ 4611686018427387904) (hu : Pl.une 43 (bl s) = none) :
    Calls Tryd.prog 11 #[.string s] w fun e w' => e = .returned (.tuple #[.string ⟨#[]⟩, .bool false]) ∧ Below w.heap.size w w' := by
  have HU := Lib.hid hu; clear hu
  go_enter Tryd.func11, Tryd.ntmps11
  go_wp2_with fail
  refine (url_unpath s w ht hs (fun x hx => by rw [HU.out] at hx; cases hx)).mono ?_
  rintro e w' ⟨hE, hb⟩
  unfold UneEnd at hE
  rw [show Pl.une (Pl.pl false) (bl s) = none from HU.out] at hE
  obtain ⟨x, rfl⟩ := hE
  go_wp2
  go_quiet (fail)
  go_wp2
  go_ret2
  exact ⟨rfl, below_drewN hb _⟩
set_option maxHeartbeats 400000 in
theorem url_unquery (s : ByteArray) (w : World) (ht : TabAt w) (hs : s.size ≤ 4611686018427387904) (hr : ∀ r, Pl.une 32 (bl s) = some r → r.length ≤ 140737488355328) :
    Calls Tryd.prog 23 #[.string s] w fun e w' => UneEnd true s e ∧ Below w.heap.size w w' := by
  have HRR := Lib.hid hr; clear hr
  go_enter Tryd.func23, Tryd.ntmps23
  go_wp2_with fail
  refine (unescape_any true s w ht hs HRR.out).mono ?_
  rintro e w' ⟨hE, hb⟩
  unfold UneEnd at hE
  cases hu : Pl.une (Pl.pl true) (bl s) with
  | none =>
    rw [hu] at hE
    obtain ⟨x, rfl⟩ := hE
    have HU := Lib.hid hu; clear hu
    go_wp2
    go_ret2
    exact ⟨UneEnd.bad HU.out _, hb⟩
  | some r =>
    rw [hu] at hE
    subst hE
    have HU := Lib.hid hu; clear hu
    go_wp2
    go_ret2
    exact ⟨UneEnd.good HU.out rfl, hb⟩
set_option maxHeartbeats 400000 in
theorem impl_unquery_ok (s : ByteArray) (r : List UInt8) (w : World) (ht : TabAt w) (hs : s.size ≤ 4611686018427387904) (hu : Pl.une 32 (bl s) = some r) (hr : r.length ≤ 140737488355328) :
    Calls Tryd.prog 13 #[.string s] w fun e w' => e = .returned (.tuple #[.string (mk r), .bool true]) ∧ Below w.heap.size w w' := by
  have HU := Lib.hid hu; clear hu
  go_enter Tryd.func13, Tryd.ntmps13
  go_wp2_with fail
  refine (url_unquery s w ht hs (fun x hx => by rw [HU.out] at hx; cases hx; exact hr)).mono ?_
  rintro e w' ⟨hE, hb⟩
  unfold UneEnd at hE
  rw [show Pl.une (Pl.pl true) (bl s) = some r from HU.out] at hE
  subst hE
  go_wp2
  go_quiet (fail)
  go_wp2
  go_ret2
  exact ⟨rfl, below_drewN hb _⟩
set_option maxHeartbeats 400000 in
theorem impl_unquery_no (s : ByteArray) (w : World) (ht : TabAt w) (hs : s.size ≤ 4611686018427387904) (hu : Pl.une 32 (bl s) = none) :
    Calls Tryd.prog 13 #[.string s] w fun e w' => e = .returned (.tuple #[.string ⟨#[]⟩, .bool false]) ∧ Below w.heap.size w w' := by
  have HU := Lib.hid hu; clear hu
  go_enter Tryd.func13, Tryd.ntmps13
  go_wp2_with fail
  refine (url_unquery s w ht hs (fun x hx => by rw [HU.out] at hx; cases hx)).mono ?_
  rintro e w' ⟨hE, hb⟩
  unfold UneEnd at hE
  rw [show Pl.une (Pl.pl true) (bl s) = none from HU.out] at hE
  obtain ⟨x, rfl⟩ := hE
  go_wp2
  go_quiet (fail)
  go_wp2
  go_ret2
  exact ⟨rfl, below_drewN hb _⟩
end Go.Proofs.YtjfgadnjdcopcaaDoor
