/-
  The law FnQueryCut: a text that is cut where no escape is open is unescaped piece by piece, and is good exactly if both pieces are: true for every two strings. Condition: the strings have together at most 1048576 letters (the bound of the second form).
-/
import Derived.Test.YtckdlmbdgjcncaaDoorCards
import Derived.Test.YtckdlmbdgjcncaaDoorTie
import Derived.Test.YtckdlmbdgjcncaaDoorImplU
import Derived.Test.YtckdlmbdgjcncaaDoorSpecV
import Derived.Test.YtckdlmbdgjcncaaDoorOpen
import Derived.ProofKit
import Derived.OpenShut
import Derived.Deep.DeepHandedRow
import Derived.SizedLaws
namespace Go.Proofs.YtckdlmbdgjcncaaDoor.fnQueryCut
open Go.ChangeShapes Go.WideShapes Go.ChangeAt Go.RowKit
open Go.ChangeMaps (open_string shut_string)

theorem own : ownKnob Tryd.prog.godebug = none := by kernel_rfl

set_option maxHeartbeats 1000000 in
/-- THE WALK -/
theorem walk (s t : ByteArray) (w : World) (ht : TabAt w) (hs : s.size ≤ 1048576) (htz : t.size ≤ 1048576) :
    Calls Tryd.prog 9 #[.string s, .string t] w fun e w' => e = .returned (.bool true) ∧ Below w.heap.size w w' := by
  have HZ := Lib.hid (show (s ++ t).size = s.size + t.size from ByteArray.size_append)
  cases ho : Pl.openB (bl s) with
  | true =>
    have HOP := Lib.hid ho; clear ho
    go_enter Tryd.func9, Tryd.ntmps9
    go_wp2_with fail
    refine (open_any s w (by omega)).mono ?_
    rintro e w0 ⟨rfl, rfl⟩
    rw [HOP.out]
    go_wp2_with fail
    go_ret
    exact ⟨rfl, Below.refl _ _⟩
  | false =>
    have hap := Pl.une_append 32 (bl s) (bl t) ho
    rw [← bl_append] at hap
    have HOP := Lib.hid ho; clear ho
    cases ha : Pl.une 32 (bl s) with
    | none =>
      cases hb : Pl.une 32 (bl t) with
      | none =>
        rw [ha, hb] at hap
        have HA := Lib.hid ha; clear ha
        have HB := Lib.hid hb; clear hb
        have HC := Lib.hid (show Pl.une 32 (bl (s ++ t)) = none from hap); clear hap
        go_enter Tryd.func9, Tryd.ntmps9
        go_wp2_with fail
        refine (open_any s w (by omega)).mono ?_
        rintro e w0 ⟨rfl, rfl⟩
        rw [HOP.out]
        go_wp2_with fail
        refine (impl_unquery_no s w ht (by omega) HA.out).mono ?_
        rintro e w1 ⟨rfl, hb1⟩
        have ht1 := ht.below hb1 (tab_lt ht)
        go_wp2_with fail
        refine (impl_unquery_no t w1 ht1 (by omega) HB.out).mono ?_
        rintro e w2 ⟨rfl, hb2⟩
        have ht2 := ht1.below hb2 (tab_lt ht1)
        go_wp2_with fail
        refine (impl_unquery_no (s ++ t) w2 ht2 (by rw [HZ.out]; omega) HC.out).mono ?_
        rintro e w3 ⟨rfl, hb3⟩
        go_wp2_with fail
        refine (spec_unquery_no (s ++ t) w3 (by rw [HZ.out]; omega) HC.out).mono ?_
        rintro e w4 ⟨rfl, hb4⟩
        go_wp2
        go_ret
        exact ⟨ret_bool (by simp), hb1.trans ((hb2.trans ((hb3.trans (hb4.mono hb3.size)).mono hb2.size)).mono hb1.size)⟩
      | some rb =>
        have bb := une_le_q _ _ hb
        rw [length_bl] at bb
        have BB := Lib.hid (Nat.le_trans bb htz); clear bb
        rw [ha, hb] at hap
        have HA := Lib.hid ha; clear ha
        have HB := Lib.hid hb; clear hb
        have HC := Lib.hid (show Pl.une 32 (bl (s ++ t)) = none from hap); clear hap
        go_enter Tryd.func9, Tryd.ntmps9
        go_wp2_with fail
        refine (open_any s w (by omega)).mono ?_
        rintro e w0 ⟨rfl, rfl⟩
        rw [HOP.out]
        go_wp2_with fail
        refine (impl_unquery_no s w ht (by omega) HA.out).mono ?_
        rintro e w1 ⟨rfl, hb1⟩
        have ht1 := ht.below hb1 (tab_lt ht)
        go_wp2_with fail
        refine (impl_unquery_ok t rb w1 ht1 (by omega) HB.out (by have := BB.out; omega)).mono ?_
        rintro e w2 ⟨rfl, hb2⟩
        have ht2 := ht1.below hb2 (tab_lt ht1)
        go_wp2_with fail
        refine (impl_unquery_no (s ++ t) w2 ht2 (by rw [HZ.out]; omega) HC.out).mono ?_
        rintro e w3 ⟨rfl, hb3⟩
        go_wp2_with fail
        refine (spec_unquery_no (s ++ t) w3 (by rw [HZ.out]; omega) HC.out).mono ?_
        rintro e w4 ⟨rfl, hb4⟩
        go_wp2
        go_ret
        exact ⟨ret_bool (by simp), hb1.trans ((hb2.trans ((hb3.trans (hb4.mono hb3.size)).mono hb2.size)).mono hb1.size)⟩
    | some ra =>
      have ba := une_le_q _ _ ha
      rw [length_bl] at ba
      have BA := Lib.hid (Nat.le_trans ba hs); clear ba
      cases hb : Pl.une 32 (bl t) with
      | none =>
        rw [ha, hb] at hap
        have HA := Lib.hid ha; clear ha
        have HB := Lib.hid hb; clear hb
        have HC := Lib.hid (show Pl.une 32 (bl (s ++ t)) = none from hap); clear hap
        go_enter Tryd.func9, Tryd.ntmps9
        go_wp2_with fail
        refine (open_any s w (by omega)).mono ?_
        rintro e w0 ⟨rfl, rfl⟩
        rw [HOP.out]
        go_wp2_with fail
        refine (impl_unquery_ok s ra w ht (by omega) HA.out (by have := BA.out; omega)).mono ?_
        rintro e w1 ⟨rfl, hb1⟩
        have ht1 := ht.below hb1 (tab_lt ht)
        go_wp2_with fail
        refine (impl_unquery_no t w1 ht1 (by omega) HB.out).mono ?_
        rintro e w2 ⟨rfl, hb2⟩
        have ht2 := ht1.below hb2 (tab_lt ht1)
        go_wp2_with fail
        refine (impl_unquery_no (s ++ t) w2 ht2 (by rw [HZ.out]; omega) HC.out).mono ?_
        rintro e w3 ⟨rfl, hb3⟩
        go_wp2_with fail
        refine (spec_unquery_no (s ++ t) w3 (by rw [HZ.out]; omega) HC.out).mono ?_
        rintro e w4 ⟨rfl, hb4⟩
        go_wp2
        go_ret
        exact ⟨ret_bool (by simp), hb1.trans ((hb2.trans ((hb3.trans (hb4.mono hb3.size)).mono hb2.size)).mono hb1.size)⟩
      | some rb =>
        have bb := une_le_q _ _ hb
        rw [length_bl] at bb
        have BB := Lib.hid (Nat.le_trans bb htz); clear bb
        rw [ha, hb] at hap
        have HA := Lib.hid ha; clear ha
        have HB := Lib.hid hb; clear hb
        have HC := Lib.hid (show Pl.une 32 (bl (s ++ t)) = some (ra ++ rb) from hap); clear hap
        go_enter Tryd.func9, Tryd.ntmps9
        go_wp2_with fail
        refine (open_any s w (by omega)).mono ?_
        rintro e w0 ⟨rfl, rfl⟩
        rw [HOP.out]
        go_wp2_with fail
        refine (impl_unquery_ok s ra w ht (by omega) HA.out (by have := BA.out; omega)).mono ?_
        rintro e w1 ⟨rfl, hb1⟩
        have ht1 := ht.below hb1 (tab_lt ht)
        go_wp2_with fail
        refine (impl_unquery_ok t rb w1 ht1 (by omega) HB.out (by have := BB.out; omega)).mono ?_
        rintro e w2 ⟨rfl, hb2⟩
        have ht2 := ht1.below hb2 (tab_lt ht1)
        go_wp2_with fail
        refine (impl_unquery_ok (s ++ t) (ra ++ rb) w2 ht2 (by rw [HZ.out]; omega) HC.out (by have := BA.out; have := BB.out; rw [List.length_append]; omega)).mono ?_
        rintro e w3 ⟨rfl, hb3⟩
        go_wp2_with fail
        refine (spec_unquery_ok (s ++ t) (ra ++ rb) w3 (by rw [HZ.out]; omega) HC.out).mono ?_
        rintro e w4 ⟨rfl, hb4⟩
        have hE : ((mk (ra ++ rb)).toList == (mk ra ++ mk rb).toList) = true := by rw [mk_append, bl_mk]; simp
        have z1 : (mk ra).size ≤ 1048576 := by rw [size_mk]; exact BA.out
        have z2 : (mk rb).size ≤ 1048576 := by rw [size_mk]; exact BB.out
        go_wp2
        go_ret
        exact ⟨ret_bool (by simp), hb1.trans ((hb2.trans ((hb3.trans (hb4.mono hb3.size)).mono hb2.size)).mono hb1.size)⟩

/-- what the bound gives -/
theorem short {H : Type} {s t : ByteArray} (hk : Rows.uptoSmall H [DataW.lit (H := H) (.string s.data.toList), DataW.lit (H := H) (.string t.data.toList)] = true) : s.size ≤ 1048576 ∧ t.size ≤ 1048576 := by
  have h : Rows.uptoBulkAll [DataW.lit (H := H) (.string s.data.toList), DataW.lit (H := H) (.string t.data.toList)] ≤ 1048576 := of_decide_eq_true hk
  simp only [Rows.uptoBulkAll, Rows.uptoBulk] at h
  have es : s.data.toList.length = s.size := Array.length_toList
  have et : t.data.toList.length = t.size := Array.length_toList
  omega

theorem contract (H : Type) (enc : TypeId × Value → H) (W : World) (base : Nat) (args : Array Value) (ds gs : List (DataW H)) (before : List MemPlace)
    (hval : ∀ (j : Nat) t v, Tryd.f9.params[j]? = some t → args[j]? = some v → Value.okWide Tryd.prog W .any base t v)
    (hW : DataW.Whole enc Tryd.prog Tryd.f9.params.toList Rows.fnQueryCutSpec.vars false W args.toList ds gs before) (hk : Rows.uptoSmall H (ds ++ gs) = true) (hL : laidMetH Tryd.prog Rows.fnQueryCutRow.laid W) :
    Calls Tryd.prog 9 args W fun e W' => ∃ v, e = .returned v ∧ Rows.fnQueryCutSpec.post enc Tryd.prog Tryd.f9 false true false false W args v W' := by
  have hW' := hW
  obtain ⟨p, q, hA0, hV, rfl, hfz, hnd⟩ := hW
  have hA : DataW.TrodAll enc Tryd.prog W 0 (fun _ => true) true Tryd.f9.params.toList args.toList ds p := hA0
  rw [Tryd.params9] at hA hval
  obtain ⟨v0, vs0, d0, ds0, p0, q0, hargs, rfl, rfl, h0, r0⟩ := trodAll_cons hA
  obtain ⟨v1, vs1, d1, ds1, p1, q1, rfl, rfl, rfl, h1, r1⟩ := trodAll_cons r0
  obtain ⟨rfl, rfl, rfl⟩ := trodAll_nil r1
  obtain rfl : args = #[v0, v1] := by cases args; simp_all
  obtain ⟨rfl, rfl⟩ := trodVars_none hV
  obtain ⟨s, rfl, rfl, rfl, hmax⟩ := open_string Tryd.underlying9 (hval 0 9 v0 rfl rfl) h0
  obtain ⟨t, rfl, rfl, rfl, hmax1⟩ := open_string Tryd.underlying9 (hval 1 9 v1 rfl rfl) h1
  clear hA0
  simp only [List.append_nil] at hk
  simp only [List.append_nil] at hW'
  refine (walk s t W (tabAt_of hL) (short hk).1 (short hk).2).mono fun e W' ⟨he, hb⟩ => ?_
  subst he
  exact ⟨_, rfl, _, _, _, [], [], [], hW', trodAll_cons_mk (shut_bool Tryd.underlying4 _) trodAll_mk0, trodAll_cons_mk (shut_string Tryd.underlying9 hmax) (trodAll_cons_mk (shut_string Tryd.underlying9 hmax1) trodAll_mk0), rfl, hb.frame _, fun h => by cases h⟩

/-- A WORLD FOR THE WITNESS: the settled one, the table holding what its initialiser lays. -/
noncomputable def laidWorld (os : Os) : World :=
  { World.holding Tryd.prog os ⟨#[], #[], []⟩ with heap := (World.holding Tryd.prog os ⟨#[], #[], []⟩).heap.modify 0 fun
      | .cells _ t frozen => .cells (tabZ.map (Value.int .u8)).toArray t frozen
      | o => o }
theorem laid_met (os : Os) : laidMet Tryd.prog Rows.fnQueryCutRow.laid ((laidWorld os).forCall (fun _ _ => 0) ⟨#[], #[.string .empty, .string .empty], []⟩).memory :=
  laidMet_of_run' 8 (by kernel_rfl) (by kernel_rfl)
theorem reads (os : Os) {H : Type} (enc : TypeId × Value → H) : ∃ places, DataW.whole enc Tryd.prog ((laidWorld os).forCall (fun _ _ => 0) ⟨#[], #[.string .empty, .string .empty], []⟩).memory Tryd.f9.params.toList Rows.fnQueryCutSpec.vars false #[Value.string .empty, Value.string .empty].toList 8 = some ([.lit (.string []), .lit (.string [])], [], places) :=
  ⟨[], by kernel_rfl⟩

set_option maxRecDepth 100000 in
theorem lifted (os : Os) (started : os.Started) (H : Type) (enc : TypeId × Value → H) (F : Stop.Interp) :
    ReturnsInHanded {} Tryd.checked os 9 .any ((Rows.OpenSpec.upto Rows.fnQueryCutSpec).preRow enc Tryd.prog Tryd.f9 Rows.fnQueryCutUptoRow.domain false Rows.fnQueryCutUptoRow.laid) (((Rows.OpenSpec.upto Rows.fnQueryCutSpec).at F).post enc Tryd.prog Tryd.f9 false true false false) := by
  obtain ⟨places, hx⟩ := reads os enc
  refine returnsInHanded_of_row (C := Tryd.checked) (s := Rows.OpenSpec.upto Rows.fnQueryCutSpec) own started (by kernel_rfl) Tryd.func9
    (witness_row_at (enc := enc) (C := Tryd.checked) false (laidWorld os) #[.string .empty, .string .empty] rfl (by kernel_rfl) (by kernel_rfl) (by kernel_rfl)
      (OpenSpec.preRow_of_cond 8 hx (by kernel_rfl) (fun k hk => by cases hk; kernel_rfl) (by kernel_rfl) (laid_met os))) ?_
  intro W base args ds gs before hval hW _ hcond hz hL _ _
  exact contract H enc W base args ds gs before hval hW (hcond _ rfl) hL

theorem said : Rows.FnQueryCutUptoSaid :=
  OpenClaim.holds_of_cond 9 Tryd.f9 rfl rfl rfl rfl rfl rfl rfl ⟨rfl, rfl, rfl, rfl, rfl⟩ rfl rfl rfl rfl rfl (by kernel_rfl) Tryd.func9 (by kernel_rfl)
    (of_decide_eq_true (by kernel_rfl)) (by unfold Func.isWrapper; first | (rw [if_pos (by decide +kernel)]; kernel_rfl) | (rw [if_neg (by decide +kernel)]; exact ⟨rfl, rfl⟩))
    (fun os started H enc _ F => by rw [OpenClaim.pre_eq_preRow]; exact lifted os started H enc F)

theorem plain (f : FuncId) (fn : Func) (hf : Tryd.pinned.checked.prog.funcNamed "loop.example/lib-g03409/laws.FnQueryCut" = some f) (hfn : Tryd.pinned.checked.prog.funcs[f]? = some fn) :
    false = Tryd.pinned.checked.prog.looks [] ∧ ∀ (j : Nat) t, fn.params[j]? = some t → Tryd.pinned.checked.prog.wantsStandIn t = false := by
  obtain rfl : f = 9 := Option.some.inj ((show Tryd.prog.funcNamed "loop.example/lib-g03409/laws.FnQueryCut" = some 9 by kernel_rfl).symm.trans hf) |>.symm
  obtain rfl : fn = Tryd.f9 := (Option.some.inj (Tryd.func9.symm.trans hfn)).symm
  refine ⟨by kernel_rfl, fun j t ht => ?_⟩
  rw [Tryd.params9] at ht
  obtain rfl : t = 9 := by simpa using Array.mem_of_getElem? ht
  exact (show Tryd.prog.wantsStandIn 9 = false by kernel_rfl)

/-- THE CARD -/
theorem card : Rows.FnQueryCutUptoCardSaid :=
  Claim7.holds_tied_plain_at .later [] _ _ _ _ said (fun _ h => by cases h) (by kernel_rfl) (fun _ h => by cases h) fnQueryCutUpto_row_tie rfl ⟨rfl, rfl⟩ (by kernel_rfl) rfl plain (by kernel_rfl)
end Go.Proofs.YtckdlmbdgjcncaaDoor.fnQueryCut
