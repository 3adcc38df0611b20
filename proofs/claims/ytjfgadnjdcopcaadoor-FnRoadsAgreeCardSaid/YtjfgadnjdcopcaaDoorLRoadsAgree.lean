/-
  The law FnRoadsAgree: the two ways to unescape are the same but for plus signs: true for every string (of at most 2^47 - 4096 bytes, as each row of the form says).
-/
import Derived.Test.YtjfgadnjdcopcaaDoorCards
import Derived.Test.YtjfgadnjdcopcaaDoorTie
import Derived.Test.YtjfgadnjdcopcaaDoorImplU
import Derived.Test.YtjfgadnjdcopcaaDoorSpecV
import Derived.Test.YtjfgadnjdcopcaaDoorCount
import Derived.ProofKit
import Derived.OpenShut
import Derived.Deep.DeepHandedRow
import Derived.SizedLaws
namespace Go.Proofs.YtjfgadnjdcopcaaDoor.fnRoadsAgree
open Go.ChangeShapes Go.WideShapes Go.ChangeAt Go.RowKit
open Go.ChangeMaps (open_string shut_string)

theorem own : ownKnob Tryd.prog.godebug = none := by kernel_rfl
theorem wr_len1 (l : List UInt8) : (Pl.wr l 43 [32]).length = l.length := by rw [Pl.wr_map, List.length_map]
theorem wr3 (l : List UInt8) (a b c d : UInt8) : (Pl.wr l a [b, c, d]).length = l.length + 2 * l.count a := by
  induction l with
  | nil => rfl
  | cons x r ih =>
    rw [Pl.wr_cons, List.length_append, ih]
    unfold Pl.wf
    by_cases h : x = a
    · subst h; rw [if_pos rfl, List.count_cons_self]; simp; omega
    · rw [if_neg h, List.count_cons_of_ne h]; simp; omega
theorem wr3_count (l : List UInt8) : (Pl.wr l 43 [37, 50, 48]).count 37 = l.count 37 + l.count 43 := by
  induction l with
  | nil => rfl
  | cons x r ih =>
    rw [Pl.wr_cons, List.count_append, ih]
    unfold Pl.wf
    by_cases h : x = 43
    · subst h; rw [if_pos rfl, List.count_cons_self, List.count_cons_of_ne (by decide)]; simp; omega
    · rw [if_neg h, List.count_cons_of_ne h, List.count_cons, List.count_cons]; simp; omega
theorem third (l z : List UInt8) (h : Pl.une 43 (Pl.wr l 43 [37, 50, 48]) = some z) : z.length ≤ l.length := by
  have h1 := une_count false _ _ h
  rw [wr3, wr3_count] at h1
  omega

set_option maxHeartbeats 1000000 in
/-- THE WALK -/
theorem walk (s : ByteArray) (w : World) (ht : TabAt w) (hs : s.size ≤ 140737488351232) :
    Calls Tryd.prog 5 #[.string s] w fun e w' => e = .returned (.bool true) ∧ Below w.heap.size w w' := by
  have L1 := Lib.hid (show (Pl.wr (bl s) 43 [32]).length = s.size by rw [wr_len1, length_bl])
  have l3 : (Pl.wr (bl s) 43 [37, 50, 48]).length ≤ 3 * s.size := by
    have := wr3 (bl s) 43 37 50 48
    have := List.count_le_length (a := (43 : UInt8)) (l := bl s)
    rw [length_bl] at *
    omega
  have Z1 := Lib.hid (size_mk (Pl.wr (bl s) 43 [32]))
  have Z2 := Lib.hid (size_mk (Pl.wr (bl s) 43 [37, 50, 48]))
  have hro := Pl.roads (bl s)
  rcases une_same (bl s) with ⟨u1, u2⟩ | ⟨x, y, u1, u2⟩
  · have U3 := Lib.hid (hro.symm.trans u2)
    have U2 := Lib.hid u2; clear u2 hro
    cases kp : Pl.isIn (bl s) 43 with
    | true =>
      have KP := Lib.hid kp; clear kp
      cases u4 : Pl.une 43 (Pl.wr (bl s) 43 [37, 50, 48]) with
      | none =>
        have U1 := Lib.hid u1; clear u1
        have U4 := Lib.hid u4; clear u4
        have ht0 := ht
        have hB0 := Below.refl w.heap.size w
        go_enter Tryd.func5, Tryd.ntmps5
        go_wp2_with fail
        refine (impl_unquery_no s w ht0 (by omega) U2.out).mono ?_
        rintro e w1 ⟨rfl, hb1⟩
        have hB1 := hB0.trans (hb1.mono hB0.size)
        have ht1 := ht0.below hb1 (tab_lt ht0)
        go_wp2_with fail
        refine (write_any s 43 ⟨#[32]⟩ w1 (by omega) (by decide) (by show (Pl.wr _ 43 [32]).length ≤ _; rw [L1.out]; omega)).mono ?_
        rintro e wx ⟨rfl, rfl⟩
        rw [show bl ⟨#[32]⟩ = [32] from rfl]
        go_wp2_with fail
        refine (impl_unpath_no (mk (Pl.wr (bl s) 43 [32])) w1 ht1 (by rw [Z1.out, L1.out]; omega) (by rw [bl_mk]; exact U3.out)).mono ?_
        rintro e w2 ⟨rfl, hb2⟩
        have hB2 := hB1.trans (hb2.mono hB1.size)
        have ht2 := ht1.below hb2 (tab_lt ht1)
        go_wp2_with fail
        refine (write_any s 43 ⟨#[37, 50, 48]⟩ w2 (by omega) (by decide) (by show (Pl.wr _ 43 [37, 50, 48]).length ≤ _; omega)).mono ?_
        rintro e wx ⟨rfl, rfl⟩
        rw [show bl ⟨#[37, 50, 48]⟩ = [37, 50, 48] from rfl]
        go_wp2_with fail
        refine (impl_unpath_no (mk (Pl.wr (bl s) 43 [37, 50, 48])) w2 ht2 (by rw [Z2.out]; omega) (by rw [bl_mk]; exact U4.out)).mono ?_
        rintro e w3 ⟨rfl, hb3⟩
        have hB3 := hB2.trans (hb3.mono hB2.size)
        have ht3 := ht2.below hb3 (tab_lt ht2)
        go_wp2_with fail
        refine (spec_unpath_no s w3 (by omega) U1.out).mono ?_
        rintro e w4 ⟨rfl, hb4⟩
        have hB4 := hB3.trans (hb4.mono hB3.size)
        have ht4 := ht3.below hb4 (tab_lt ht3)
        go_wp2_with fail
        refine (within_any 43 s w4 (by omega)).mono ?_
        rintro e wx ⟨rfl, rfl⟩
        rw [KP.out]
        go_wp2
        go_ret
        exact ⟨ret_bool (by simp), hB4⟩
      | some z =>
        have bz := third _ _ u4
        rw [length_bl] at bz
        have BZ := Lib.hid (show z.length ≤ 140737488355328 by omega)
        have U1 := Lib.hid u1; clear u1 bz
        have U4 := Lib.hid u4; clear u4
        have ht0 := ht
        have hB0 := Below.refl w.heap.size w
        go_enter Tryd.func5, Tryd.ntmps5
        go_wp2_with fail
        refine (impl_unquery_no s w ht0 (by omega) U2.out).mono ?_
        rintro e w1 ⟨rfl, hb1⟩
        have hB1 := hB0.trans (hb1.mono hB0.size)
        have ht1 := ht0.below hb1 (tab_lt ht0)
        go_wp2_with fail
        refine (write_any s 43 ⟨#[32]⟩ w1 (by omega) (by decide) (by show (Pl.wr _ 43 [32]).length ≤ _; rw [L1.out]; omega)).mono ?_
        rintro e wx ⟨rfl, rfl⟩
        rw [show bl ⟨#[32]⟩ = [32] from rfl]
        go_wp2_with fail
        refine (impl_unpath_no (mk (Pl.wr (bl s) 43 [32])) w1 ht1 (by rw [Z1.out, L1.out]; omega) (by rw [bl_mk]; exact U3.out)).mono ?_
        rintro e w2 ⟨rfl, hb2⟩
        have hB2 := hB1.trans (hb2.mono hB1.size)
        have ht2 := ht1.below hb2 (tab_lt ht1)
        go_wp2_with fail
        refine (write_any s 43 ⟨#[37, 50, 48]⟩ w2 (by omega) (by decide) (by show (Pl.wr _ 43 [37, 50, 48]).length ≤ _; omega)).mono ?_
        rintro e wx ⟨rfl, rfl⟩
        rw [show bl ⟨#[37, 50, 48]⟩ = [37, 50, 48] from rfl]
        go_wp2_with fail
        refine (impl_unpath_ok (mk (Pl.wr (bl s) 43 [37, 50, 48])) z w2 ht2 (by rw [Z2.out]; omega) (by rw [bl_mk]; exact U4.out) BZ.out).mono ?_
        rintro e w3 ⟨rfl, hb3⟩
        have hB3 := hB2.trans (hb3.mono hB2.size)
        have ht3 := ht2.below hb3 (tab_lt ht2)
        go_wp2_with fail
        refine (spec_unpath_no s w3 (by omega) U1.out).mono ?_
        rintro e w4 ⟨rfl, hb4⟩
        have hB4 := hB3.trans (hb4.mono hB3.size)
        have ht4 := ht3.below hb4 (tab_lt ht3)
        go_wp2_with fail
        refine (within_any 43 s w4 (by omega)).mono ?_
        rintro e wx ⟨rfl, rfl⟩
        rw [KP.out]
        go_wp2
        go_ret
        exact ⟨ret_bool (by simp), hB4⟩
    | false =>
      have n2 : (bl s).count 43 = 0 := by unfold Pl.isIn at kp; have := of_decide_eq_false kp; omega
      have U4 := Lib.hid (show Pl.une 43 (Pl.wr (bl s) 43 [37, 50, 48]) = none by rw [Pl.wr_none _ _ _ n2]; exact u1)
      have U1 := Lib.hid u1; clear u1 n2
      have KP := Lib.hid kp; clear kp
      have ht0 := ht
      have hB0 := Below.refl w.heap.size w
      go_enter Tryd.func5, Tryd.ntmps5
      go_wp2_with fail
      refine (impl_unquery_no s w ht0 (by omega) U2.out).mono ?_
      rintro e w1 ⟨rfl, hb1⟩
      have hB1 := hB0.trans (hb1.mono hB0.size)
      have ht1 := ht0.below hb1 (tab_lt ht0)
      go_wp2_with fail
      refine (write_any s 43 ⟨#[32]⟩ w1 (by omega) (by decide) (by show (Pl.wr _ 43 [32]).length ≤ _; rw [L1.out]; omega)).mono ?_
      rintro e wx ⟨rfl, rfl⟩
      rw [show bl ⟨#[32]⟩ = [32] from rfl]
      go_wp2_with fail
      refine (impl_unpath_no (mk (Pl.wr (bl s) 43 [32])) w1 ht1 (by rw [Z1.out, L1.out]; omega) (by rw [bl_mk]; exact U3.out)).mono ?_
      rintro e w2 ⟨rfl, hb2⟩
      have hB2 := hB1.trans (hb2.mono hB1.size)
      have ht2 := ht1.below hb2 (tab_lt ht1)
      go_wp2_with fail
      refine (write_any s 43 ⟨#[37, 50, 48]⟩ w2 (by omega) (by decide) (by show (Pl.wr _ 43 [37, 50, 48]).length ≤ _; omega)).mono ?_
      rintro e wx ⟨rfl, rfl⟩
      rw [show bl ⟨#[37, 50, 48]⟩ = [37, 50, 48] from rfl]
      go_wp2_with fail
      refine (impl_unpath_no (mk (Pl.wr (bl s) 43 [37, 50, 48])) w2 ht2 (by rw [Z2.out]; omega) (by rw [bl_mk]; exact U4.out)).mono ?_
      rintro e w3 ⟨rfl, hb3⟩
      have hB3 := hB2.trans (hb3.mono hB2.size)
      have ht3 := ht2.below hb3 (tab_lt ht2)
      go_wp2_with fail
      refine (spec_unpath_no s w3 (by omega) U1.out).mono ?_
      rintro e w4 ⟨rfl, hb4⟩
      have hB4 := hB3.trans (hb4.mono hB3.size)
      have ht4 := ht3.below hb4 (tab_lt ht3)
      go_wp2_with fail
      refine (within_any 43 s w4 (by omega)).mono ?_
      rintro e wx ⟨rfl, rfl⟩
      rw [KP.out]
      go_wp2
      go_ret
      exact ⟨ret_bool (by simp), hB4⟩
  · have l1 := une_le_p _ _ u1
    have l2 := une_le_q _ _ u2
    rw [length_bl] at l1 l2
    have U3 := Lib.hid (hro.symm.trans u2)
    cases kp : Pl.isIn (bl s) 43 with
    | true =>
      have KP := Lib.hid kp; clear kp
      have U2 := Lib.hid u2; clear u2 hro
      cases u4 : Pl.une 43 (Pl.wr (bl s) 43 [37, 50, 48]) with
      | none =>
        have U1 := Lib.hid u1; clear u1
        have U4 := Lib.hid u4; clear u4
        have ht0 := ht
        have hB0 := Below.refl w.heap.size w
        go_enter Tryd.func5, Tryd.ntmps5
        go_wp2_with fail
        refine (impl_unquery_ok s y w ht0 (by omega) U2.out (by omega)).mono ?_
        rintro e w1 ⟨rfl, hb1⟩
        have hB1 := hB0.trans (hb1.mono hB0.size)
        have ht1 := ht0.below hb1 (tab_lt ht0)
        go_wp2_with fail
        refine (write_any s 43 ⟨#[32]⟩ w1 (by omega) (by decide) (by show (Pl.wr _ 43 [32]).length ≤ _; rw [L1.out]; omega)).mono ?_
        rintro e wx ⟨rfl, rfl⟩
        rw [show bl ⟨#[32]⟩ = [32] from rfl]
        go_wp2_with fail
        refine (impl_unpath_ok (mk (Pl.wr (bl s) 43 [32])) y w1 ht1 (by rw [Z1.out, L1.out]; omega) (by rw [bl_mk]; exact U3.out) (by omega)).mono ?_
        rintro e w2 ⟨rfl, hb2⟩
        have hB2 := hB1.trans (hb2.mono hB1.size)
        have ht2 := ht1.below hb2 (tab_lt ht1)
        go_wp2_with fail
        refine (write_any s 43 ⟨#[37, 50, 48]⟩ w2 (by omega) (by decide) (by show (Pl.wr _ 43 [37, 50, 48]).length ≤ _; omega)).mono ?_
        rintro e wx ⟨rfl, rfl⟩
        rw [show bl ⟨#[37, 50, 48]⟩ = [37, 50, 48] from rfl]
        go_wp2_with fail
        refine (impl_unpath_no (mk (Pl.wr (bl s) 43 [37, 50, 48])) w2 ht2 (by rw [Z2.out]; omega) (by rw [bl_mk]; exact U4.out)).mono ?_
        rintro e w3 ⟨rfl, hb3⟩
        have hB3 := hB2.trans (hb3.mono hB2.size)
        have ht3 := ht2.below hb3 (tab_lt ht2)
        go_wp2_with fail
        refine (spec_unpath_ok s x w3 (by omega) U1.out).mono ?_
        rintro e w4 ⟨rfl, hb4⟩
        have hB4 := hB3.trans (hb4.mono hB3.size)
        have ht4 := ht3.below hb4 (tab_lt ht3)
        go_wp2_with fail
        refine (within_any 43 s w4 (by omega)).mono ?_
        rintro e wx ⟨rfl, rfl⟩
        rw [KP.out]
        go_wp2
        go_ret
        exact ⟨ret_bool (by simp), hB4⟩
      | some z =>
        have bz := third _ _ u4
        rw [length_bl] at bz
        have BZ := Lib.hid (show z.length ≤ 140737488355328 by omega)
        have U1 := Lib.hid u1; clear u1 bz
        have U4 := Lib.hid u4; clear u4
        have ht0 := ht
        have hB0 := Below.refl w.heap.size w
        go_enter Tryd.func5, Tryd.ntmps5
        go_wp2_with fail
        refine (impl_unquery_ok s y w ht0 (by omega) U2.out (by omega)).mono ?_
        rintro e w1 ⟨rfl, hb1⟩
        have hB1 := hB0.trans (hb1.mono hB0.size)
        have ht1 := ht0.below hb1 (tab_lt ht0)
        go_wp2_with fail
        refine (write_any s 43 ⟨#[32]⟩ w1 (by omega) (by decide) (by show (Pl.wr _ 43 [32]).length ≤ _; rw [L1.out]; omega)).mono ?_
        rintro e wx ⟨rfl, rfl⟩
        rw [show bl ⟨#[32]⟩ = [32] from rfl]
        go_wp2_with fail
        refine (impl_unpath_ok (mk (Pl.wr (bl s) 43 [32])) y w1 ht1 (by rw [Z1.out, L1.out]; omega) (by rw [bl_mk]; exact U3.out) (by omega)).mono ?_
        rintro e w2 ⟨rfl, hb2⟩
        have hB2 := hB1.trans (hb2.mono hB1.size)
        have ht2 := ht1.below hb2 (tab_lt ht1)
        go_wp2_with fail
        refine (write_any s 43 ⟨#[37, 50, 48]⟩ w2 (by omega) (by decide) (by show (Pl.wr _ 43 [37, 50, 48]).length ≤ _; omega)).mono ?_
        rintro e wx ⟨rfl, rfl⟩
        rw [show bl ⟨#[37, 50, 48]⟩ = [37, 50, 48] from rfl]
        go_wp2_with fail
        refine (impl_unpath_ok (mk (Pl.wr (bl s) 43 [37, 50, 48])) z w2 ht2 (by rw [Z2.out]; omega) (by rw [bl_mk]; exact U4.out) BZ.out).mono ?_
        rintro e w3 ⟨rfl, hb3⟩
        have hB3 := hB2.trans (hb3.mono hB2.size)
        have ht3 := ht2.below hb3 (tab_lt ht2)
        go_wp2_with fail
        refine (spec_unpath_ok s x w3 (by omega) U1.out).mono ?_
        rintro e w4 ⟨rfl, hb4⟩
        have hB4 := hB3.trans (hb4.mono hB3.size)
        have ht4 := ht3.below hb4 (tab_lt ht3)
        go_wp2_with fail
        refine (within_any 43 s w4 (by omega)).mono ?_
        rintro e wx ⟨rfl, rfl⟩
        rw [KP.out]
        go_wp2
        go_ret
        exact ⟨ret_bool (by simp), hB4⟩
    | false =>
      have n2 : (bl s).count 43 = 0 := by unfold Pl.isIn at kp; have := of_decide_eq_false kp; omega
      have U4 := Lib.hid (show Pl.une 43 (Pl.wr (bl s) 43 [37, 50, 48]) = some y by
        rw [Pl.wr_none _ _ _ n2, ← u2, hro, Pl.wr_none _ _ _ n2])
      have U1 := Lib.hid u1; clear u1 n2
      have U2 := Lib.hid u2; clear u2 hro
      have KP := Lib.hid kp; clear kp
      have ht0 := ht
      have hB0 := Below.refl w.heap.size w
      go_enter Tryd.func5, Tryd.ntmps5
      go_wp2_with fail
      refine (impl_unquery_ok s y w ht0 (by omega) U2.out (by omega)).mono ?_
      rintro e w1 ⟨rfl, hb1⟩
      have hB1 := hB0.trans (hb1.mono hB0.size)
      have ht1 := ht0.below hb1 (tab_lt ht0)
      go_wp2_with fail
      refine (write_any s 43 ⟨#[32]⟩ w1 (by omega) (by decide) (by show (Pl.wr _ 43 [32]).length ≤ _; rw [L1.out]; omega)).mono ?_
      rintro e wx ⟨rfl, rfl⟩
      rw [show bl ⟨#[32]⟩ = [32] from rfl]
      go_wp2_with fail
      refine (impl_unpath_ok (mk (Pl.wr (bl s) 43 [32])) y w1 ht1 (by rw [Z1.out, L1.out]; omega) (by rw [bl_mk]; exact U3.out) (by omega)).mono ?_
      rintro e w2 ⟨rfl, hb2⟩
      have hB2 := hB1.trans (hb2.mono hB1.size)
      have ht2 := ht1.below hb2 (tab_lt ht1)
      go_wp2_with fail
      refine (write_any s 43 ⟨#[37, 50, 48]⟩ w2 (by omega) (by decide) (by show (Pl.wr _ 43 [37, 50, 48]).length ≤ _; omega)).mono ?_
      rintro e wx ⟨rfl, rfl⟩
      rw [show bl ⟨#[37, 50, 48]⟩ = [37, 50, 48] from rfl]
      go_wp2_with fail
      refine (impl_unpath_ok (mk (Pl.wr (bl s) 43 [37, 50, 48])) y w2 ht2 (by rw [Z2.out]; omega) (by rw [bl_mk]; exact U4.out) (by omega)).mono ?_
      rintro e w3 ⟨rfl, hb3⟩
      have hB3 := hB2.trans (hb3.mono hB2.size)
      have ht3 := ht2.below hb3 (tab_lt ht2)
      go_wp2_with fail
      refine (spec_unpath_ok s x w3 (by omega) U1.out).mono ?_
      rintro e w4 ⟨rfl, hb4⟩
      have hB4 := hB3.trans (hb4.mono hB3.size)
      have ht4 := ht3.below hb4 (tab_lt ht3)
      go_wp2_with fail
      refine (within_any 43 s w4 (by omega)).mono ?_
      rintro e wx ⟨rfl, rfl⟩
      rw [KP.out]
      go_wp2
      go_ret
      exact ⟨ret_bool (by simp), hB4⟩

/-- what the form's reach gives -/
theorem short {H : Type} (ts : List TypeId) {s : ByteArray} {ds : List (DataW H)} {j : Nat} {t : TypeId} (hz : (DataW.weightsEach Tryd.prog ts ds).all (· ≤ reachBytes) = true) (ht : ts[j]? = some t) (hd : ds[j]? = some (.lit (.string s.data.toList))) : s.size ≤ 140737488351232 := by
  have h := sized_string hz ht hd
  have e : s.data.toList.length = s.size := Array.length_toList
  rw [e] at h
  exact h

theorem contract (H : Type) (enc : TypeId × Value → H) (W : World) (base : Nat) (args : Array Value) (ds gs : List (DataW H)) (before : List MemPlace)
    (hval : ∀ (j : Nat) t v, Tryd.f5.params[j]? = some t → args[j]? = some v → Value.okWide Tryd.prog W .any base t v)
    (hW : DataW.Whole enc Tryd.prog Tryd.f5.params.toList Rows.fnRoadsAgreeSpec.vars false W args.toList ds gs before) (hz : (DataW.weightsEach Tryd.prog (Tryd.f5.params.toList ++ []) (ds ++ gs)).all (· ≤ reachBytes) = true) (hL : laidMetH Tryd.prog Rows.fnRoadsAgreeRow.laid W) :
    Calls Tryd.prog 5 args W fun e W' => ∃ v, e = .returned v ∧ Rows.fnRoadsAgreeSpec.post enc Tryd.prog Tryd.f5 false true false false W args v W' := by
  have hW' := hW
  obtain ⟨p, q, hA0, hV, rfl, hfz, hnd⟩ := hW
  have hA : DataW.TrodAll enc Tryd.prog W 0 (fun _ => true) true Tryd.f5.params.toList args.toList ds p := hA0
  rw [Tryd.params5] at hA hval hz
  obtain ⟨v0, vs0, d0, ds0, p0, q0, hargs, rfl, rfl, h0, r0⟩ := trodAll_cons hA
  obtain ⟨rfl, rfl, rfl⟩ := trodAll_nil r0
  obtain rfl : args = #[v0] := by cases args; simp_all
  obtain ⟨rfl, rfl⟩ := trodVars_none hV
  obtain ⟨s, rfl, rfl, rfl, hmax⟩ := open_string Tryd.underlying9 (hval 0 9 v0 rfl rfl) h0
  clear hA0
  simp only [List.append_nil] at hW'
  refine (walk s W (tabAt_of hL) (short _ (j := 0) hz rfl rfl)).mono fun e W' ⟨he, hb⟩ => ?_
  subst he
  exact ⟨_, rfl, _, _, _, [], [], [], hW', trodAll_cons_mk (shut_bool Tryd.underlying4 _) trodAll_mk0, trodAll_cons_mk (shut_string Tryd.underlying9 hmax) trodAll_mk0, rfl, hb.frame _, fun h => by cases h⟩

/-- A WORLD FOR THE WITNESS: the settled one, the table holding what its initialiser lays. -/
noncomputable def laidWorld (os : Os) : World :=
  { World.holding Tryd.prog os ⟨#[], #[], []⟩ with heap := (World.holding Tryd.prog os ⟨#[], #[], []⟩).heap.modify 0 fun
      | .cells _ t frozen => .cells (tabZ.map (Value.int .u8)).toArray t frozen
      | o => o }
theorem laid_met (os : Os) : laidMet Tryd.prog Rows.fnRoadsAgreeRow.laid ((laidWorld os).forCall (fun _ _ => 0) ⟨#[], #[.string .empty], []⟩).memory :=
  laidMet_of_run' 8 (by kernel_rfl) (by kernel_rfl)
theorem reads (os : Os) {H : Type} (enc : TypeId × Value → H) : ∃ places, DataW.whole enc Tryd.prog ((laidWorld os).forCall (fun _ _ => 0) ⟨#[], #[.string .empty], []⟩).memory Tryd.f5.params.toList Rows.fnRoadsAgreeSpec.vars false #[Value.string .empty].toList 8 = some ([.lit (.string [])], [], places) :=
  ⟨[], by kernel_rfl⟩

set_option maxRecDepth 100000 in
theorem lifted (os : Os) (started : os.Started) (H : Type) (enc : TypeId × Value → H) (F : Stop.Interp) :
    ReturnsInHanded {} Tryd.checked os 5 .any ((OpenSpec.ofChange Rows.fnRoadsAgreeSpec).preRow enc Tryd.prog Tryd.f5 Rows.fnRoadsAgreeRow.domain false Rows.fnRoadsAgreeRow.laid) (((OpenSpec.ofChange Rows.fnRoadsAgreeSpec).at F).post enc Tryd.prog Tryd.f5 false true false false) := by
  obtain ⟨places, hx⟩ := reads os enc
  refine returnsInHanded_of_row (C := Tryd.checked) (s := OpenSpec.ofChange Rows.fnRoadsAgreeSpec) own started (by kernel_rfl) Tryd.func5
    (witness_row_at (enc := enc) (C := Tryd.checked) false (laidWorld os) #[.string .empty] rfl (by kernel_rfl) (by kernel_rfl) (by kernel_rfl)
      (OpenSpec.preRow_of_cond 8 hx (by kernel_rfl) (fun k hk => by cases hk) (by kernel_rfl) (laid_met os))) ?_
  intro W base args ds gs before hval hW _ hcond hz hL _ _
  exact contract H enc W base args ds gs before hval hW hz hL

theorem said : Rows.FnRoadsAgreeSaid :=
  OpenClaim.holds_of_cond 5 Tryd.f5 rfl rfl rfl rfl rfl rfl rfl ⟨rfl, rfl, rfl, rfl, rfl⟩ rfl rfl rfl rfl rfl (by kernel_rfl) Tryd.func5 (by kernel_rfl)
    (of_decide_eq_true (by kernel_rfl)) (by unfold Func.isWrapper; first | (rw [if_pos (by decide +kernel)]; kernel_rfl) | (rw [if_neg (by decide +kernel)]; exact ⟨rfl, rfl⟩))
    (fun os started H enc _ F => by rw [OpenClaim.pre_eq_preRow]; exact lifted os started H enc F)

theorem plain (f : FuncId) (fn : Func) (hf : Tryd.pinned.checked.prog.funcNamed "loop.example/lib-g03409/laws.FnRoadsAgree" = some f) (hfn : Tryd.pinned.checked.prog.funcs[f]? = some fn) :
    false = Tryd.pinned.checked.prog.looks [] ∧ ∀ (j : Nat) t, fn.params[j]? = some t → Tryd.pinned.checked.prog.wantsStandIn t = false := by
  obtain rfl : f = 5 := Option.some.inj ((show Tryd.prog.funcNamed "loop.example/lib-g03409/laws.FnRoadsAgree" = some 5 by kernel_rfl).symm.trans hf) |>.symm
  obtain rfl : fn = Tryd.f5 := (Option.some.inj (Tryd.func5.symm.trans hfn)).symm
  refine ⟨by kernel_rfl, fun j t ht => ?_⟩
  rw [Tryd.params5] at ht
  obtain rfl : t = 9 := by simpa using Array.mem_of_getElem? ht
  exact (show Tryd.prog.wantsStandIn 9 = false by kernel_rfl)

/-- THE CARD -/
theorem card : Rows.FnRoadsAgreeCardSaid :=
  Claim7.holds_tied_plain_at .later [] _ _ _ _ said (fun _ h => by cases h) (by kernel_rfl) (fun _ h => by cases h) fnRoadsAgree_row_tie rfl ⟨rfl, rfl⟩ (by kernel_rfl) rfl plain (by kernel_rfl)
end Go.Proofs.YtjfgadnjdcopcaaDoor.fnRoadsAgree
