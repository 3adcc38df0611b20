/-
  The contracts of spec.escape, spec.PathEscape and spec.QueryEscape: the reference's escapes, byte by byte; what was there stays. Condition: string and result are no longer than Go bears.
-/
import Derived.Test.YtjfgadnjdcopcaaDoorUnres
import Derived.Test.YtjfgadnjdcopcaaDoorHas
import Derived.Test.YtjfgadnjdcopcaaDoorWrite
import Derived.Lib.Hide
import Derived.Deep.QuietTactic
import Derived.BigQuiet
import Derived.WalkSmall
namespace Go.Proofs.YtjfgadnjdcopcaaDoor
open Go.RowKit
theorem quiet_left {P : Program} {f : FuncId} {args : Array Value} {w : World} {n : Nat} {v : Value}
    (h : Calls P f args (w.drewN n) fun e w' => e = .returned v ∧ w.drewN n = w') : Calls P f args (w.drewN n) fun e w'' => e = .returned v ∧ ∃ m, w'' = w.drewN m :=
  h.mono fun _ _ ⟨he, hm⟩ => ⟨he, n, hm.symm⟩
theorem specE_take (keep s : List UInt8) (k : Nat) : (Pl.specE keep (s.take k)).length ≤ (Pl.specE keep s).length := by
  conv => rhs; rw [← List.take_append_drop k s]
  unfold Pl.specE; rw [List.flatMap_append, List.length_append]; omega
theorem specE_keep (s : ByteArray) (keep : List UInt8) (k : Nat) (h : k < s.size) (hu : (Pl.unres s[k] || Pl.isIn keep s[k]) = true) :
    mk (Pl.specE keep ((bl s).take k)) ++ s.extract k (k + 1) = mk (Pl.specE keep ((bl s).take (k + 1))) := by
  rw [mk_append, bl_one s k h, bl_take s k h]; unfold Pl.specE; rw [List.flatMap_append]; simp [Pl.sf, hu]
theorem specE_pct (s : ByteArray) (keep : List UInt8) (k : Nat) (h : k < s.size) (hu : (Pl.unres s[k] || Pl.isIn keep s[k]) = false) :
    mk (Pl.specE keep ((bl s).take k)) ++ (⟨#[37]⟩ : ByteArray) ++ dg ((s[k].toNat : Int) / 16) ++ dg ((s[k].toNat : Int) % 16) = mk (Pl.specE keep ((bl s).take (k + 1))) := by
  rw [mk_append, mk_append, mk_append, bl_dg (s[k].toNat / 16) _ (by omega), bl_dg (s[k].toNat % 16) _ (by omega), bl_take s k h]; unfold Pl.specE; rw [List.flatMap_append]; simp [Pl.sf, hu, Pl.pct, bl]

set_option maxHeartbeats 1000000 in
theorem spec_escape (s keep : ByteArray) (w : World) (hs : s.size ≤ 4611686018427387904) (hk : keep.size ≤ 9223372036854775807) (hr : (Pl.specE (bl keep) (bl s)).length ≤ 4611686018427387904) :
    Calls Tryd.prog 22 #[.string s, .string keep] w fun e w' => e = .returned (.string (mk (Pl.specE (bl keep) (bl s)))) ∧ Below w.heap.size w w' := by
  go_enter Tryd.func22, Tryd.ntmps22
  go_wp2
  go_loopw [5, 6] (fun o i wr => ∃ k : Nat, k ≤ s.size ∧ i = .int .i64 k ∧ o = .string (mk (Pl.specE (bl keep) ((bl s).take k))) ∧ Below w.heap.size w wr) (fun _ i _ => s.size - (intOf i).toNat)
  case atStart => exact ⟨0, Nat.zero_le _, rfl, rfl, Below.refl _ _⟩
  case round =>
    obtain ⟨k, hk2, rfl, rfl, hb⟩ := hrel
    have hl := specE_take (bl keep) (bl s) k
    rw [← size_mk (Pl.specE (bl keep) ((bl s).take k))] at hl
    by_cases hlt : k < s.size
    · cases hu : Pl.unres s[k] with
      | true =>
        have H := Lib.hid (specE_keep s (bl keep) k hlt (by rw [hu]; rfl))
        go_wp2_with (go_at_call 27; refine (unres_any _ _).mono ?_; rintro e w' ⟨rfl, rfl⟩)
        go_roundw
        case rel => exact ⟨k + 1, by omega, by go_num, by rw [H.out], hb⟩
        case measure => simp [intOf]; omega
      | false =>
        cases hi : Pl.isIn (bl keep) s[k] with
        | true =>
          have H := Lib.hid (specE_keep s (bl keep) k hlt (by rw [hu, hi]; rfl))
          go_wp2_with (first | (go_at_call 27; refine (unres_any _ _).mono ?_; rintro e w' ⟨rfl, rfl⟩) | (go_at_call 28; refine (has_any _ _ _ hk).mono ?_; rintro e w' ⟨rfl, rfl⟩))
          go_roundw
          case rel => exact ⟨k + 1, by omega, by go_num, by rw [H.out], hb⟩
          case measure => simp [intOf]; omega
        | false =>
          have H := Lib.hid (specE_pct s (bl keep) k hlt (by rw [hu, hi]; rfl))
          go_wp2_with (first | (go_at_call 27; refine (unres_any _ _).mono ?_; rintro e w' ⟨rfl, rfl⟩) | (go_at_call 28; refine (has_any _ _ _ hk).mono ?_; rintro e w' ⟨rfl, rfl⟩))
          have h15 := and15 s[k]
          have q1 := fun (W : World) => run_string_add_sum (P := Tryd.prog) W (mk (Pl.specE (bl keep) ((bl s).take k))) ⟨#[37]⟩ (by show _ + 1 ≤ _; omega)
          have q2 := fun (d : Int) (W : World) => run_string_add_sum (P := Tryd.prog) W (mk (Pl.specE (bl keep) ((bl s).take k)) ++ ⟨#[37]⟩) (dg d) (by rw [ByteArray.size_append, dg_size d]; show _ + 1 + 1 ≤ _; omega)
          have q3 := fun (d e : Int) (W : World) => run_string_add_sum (P := Tryd.prog) W (mk (Pl.specE (bl keep) ((bl s).take k)) ++ ⟨#[37]⟩ ++ dg d) (dg e) (by rw [ByteArray.size_append, ByteArray.size_append, dg_size d, dg_size e]; show _ + 1 + 1 + 1 ≤ _; omega)
          go_quiet ((go_at_call 29; exact quiet_left (digit_any _ _ (by have := UInt8.toNat_lt s[k]; omega) (by have := UInt8.toNat_lt s[k]; omega))))
          clear q1 q2 q3 h15
          go_wp2
          go_roundw
          case rel => exact ⟨k + 1, by omega, by go_num, by rw [H.out], below_drewN hb _⟩
          case measure => simp [intOf]; omega
    · go_wp2
      go_ret
      exact ⟨ret_str (by rw [bl_take_all s k (by omega)]), hb⟩
theorem sf_len (keep : List UInt8) (c : UInt8) : (Pl.sf keep c).length ≤ 3 := by unfold Pl.sf; split <;> simp [Pl.pct]
theorem specE_le (keep : List UInt8) (s : ByteArray) : (Pl.specE keep (bl s)).length ≤ 3 * s.size := by
  have := Pl.flat_le (Pl.sf keep) (sf_len keep) (bl s)
  rwa [length_bl] at this
theorem wf_len1 (a b : UInt8) (l : List UInt8) : (Pl.wr l a [b]).length = l.length := by
  unfold Pl.wr
  induction l with
  | nil => rfl
  | cons c r ih => rw [List.flatMap_cons, List.length_append, ih]; unfold Pl.wf; split <;> simp <;> omega
set_option maxHeartbeats 400000 in
theorem spec_path (s : ByteArray) (w : World) (hs : s.size ≤ 1125899906842624) :
   Calls Tryd.prog 12 #[.string s] w fun e w' => e = .returned (.string (mk (Pl.pathE (bl s)))) ∧ Below w.heap.size w w' := by
 rw [Pl.exact_path]
 have hl := specE_le Pl.keepP s
 go_enter Tryd.func12, Tryd.ntmps12
 go_wp2_with (go_at_call 22; refine (spec_escape _ ⟨#[36, 38, 43, 58, 61, 64]⟩ _ (by omega) (by decide) (Nat.le_trans hl (by omega))).mono ?_; rintro e w' ⟨rfl, hb⟩)
 go_ret
 exact ⟨rfl, hb⟩
set_option maxHeartbeats 400000 in
theorem spec_query (s : ByteArray) (w : World) (hs : s.size ≤ 1125899906842624) :
   Calls Tryd.prog 14 #[.string s] w fun e w' => e = .returned (.string (mk (Pl.queryE (bl s)))) ∧ Below w.heap.size w w' := by
 rw [Pl.exact_query]
 have hl := specE_le [32] s
 have hl2 := size_mk (Pl.specE [32] (bl s))
 have hl3 := wf_len1 32 43 (Pl.specE [32] (bl s))
 have H2 := Lib.hid hl2; clear hl2
 have H3 := Lib.hid hl3; clear hl3
 go_enter Tryd.func14, Tryd.ntmps14
 go_wp2_with (go_at_call 22; refine (spec_escape _ ⟨#[32]⟩ _ (by omega) (by decide) (Nat.le_trans hl (by omega))).mono ?_; rintro e w' ⟨rfl, hb⟩)
 refine (swap_any (mk (Pl.specE [32] (bl s))) 32 ⟨#[43]⟩ _ (by rw [H2.out]; omega) (by decide) (by rw [bl_mk]; show (Pl.wr _ 32 [43]).length ≤ _; rw [H3.out]; omega)).mono ?_
 rintro e w1 ⟨rfl, rfl⟩
 rw [bl_mk]
 go_wp2
 go_ret
 exact ⟨rfl, hb⟩
end Go.Proofs.YtjfgadnjdcopcaaDoor
