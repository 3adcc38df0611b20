/-
  The law FnQueryPieces: QueryEscape works byte by byte: true for every two strings. Condition: the strings have together at most 1048576 letters (the bound of the second form).
-/
import Derived.Test.YtdddhhifdakfmaaDoorCards
import Derived.Test.YtdddhhifdakfmaaDoorTie
import Derived.Test.YtdddhhifdakfmaaDoorImplE
import Derived.ProofKit
import Derived.OpenShut
import Derived.Deep.DeepHandedRow
import Derived.SizedLaws
namespace Go.Proofs.YtdddhhifdakfmaaDoor.fnQueryPieces
open Go.ChangeShapes Go.WideShapes Go.ChangeAt Go.RowKit
open Go.ChangeMaps (open_string shut_string)

theorem own : ownKnob Tryd.prog.godebug = none := by kernel_rfl

set_option maxHeartbeats 1000000 in
/-- THE WALK -/
theorem walk (s t : ByteArray) (w : World) (ht : TabAt w) (hs : s.size ≤ 1048576) (htz : t.size ≤ 1048576) :
    Calls Tryd.prog 5 #[.string s, .string t] w fun e w' => e = .returned (.bool true) ∧ Below w.heap.size w w' := by
  have hl := Pl.queryE_le (bl s)
  have hl2 := Pl.queryE_le (bl t)
  have hl3 := Pl.queryE_le (bl (s ++ t))
  have hg := Pl.queryE_ge (bl (s ++ t))
  have hsz : (s ++ t).size = s.size + t.size := ByteArray.size_append
  rw [length_bl] at hl hl2 hl3 hg
  have HZ := Lib.hid hsz; clear hsz
  have HA := Lib.hid (show mk (Pl.queryE (bl (s ++ t))) = mk (Pl.queryE (bl s)) ++ mk (Pl.queryE (bl t)) by rw [bl_append, Pl.queryE_append, mk_append, bl_mk])
  have h1 := size_mk (Pl.queryE (bl s))
  have h2 := size_mk (Pl.queryE (bl t))
  have h3 := size_mk (Pl.queryE (bl (s ++ t)))
  have b1 : (mk (Pl.queryE (bl s))).size ≤ 3145728 := by omega
  have b2 : (mk (Pl.queryE (bl t))).size ≤ 3145728 := by omega
  have b3 : s.size + t.size ≤ (mk (Pl.queryE (bl (s ++ t)))).size := by rw [h3, ← HZ.out]; exact hg
  have H1 := Lib.hid h1; clear h1
  have H2 := Lib.hid h2; clear h2
  have H3 := Lib.hid h3; clear h3
  go_enter Tryd.func5, Tryd.ntmps5
  go_wp2_with fail
  refine (impl_query (s ++ t) w ht (by rw [HZ.out]; omega) (by have := HZ.out; omega)).mono ?_
  rintro e w1 ⟨rfl, hb1⟩
  go_wp2_with fail
  have ht1 := ht.below hb1 (tab_lt ht)
  refine (impl_query s w1 ht1 (by omega) (by omega)).mono ?_
  rintro e w2 ⟨rfl, hb2⟩
  go_wp2_with fail
  refine (impl_query t w2 (ht1.below hb2 (tab_lt ht1)) (by omega) (by omega)).mono ?_
  rintro e w3 ⟨rfl, hb3⟩
  have hE : ((mk (Pl.queryE (bl (s ++ t)))).toList == (mk (Pl.queryE (bl s)) ++ mk (Pl.queryE (bl t))).toList) = true := by rw [HA.out]; simp
  clear hl3 hg
  go_wp2
  go_ret
  exact ⟨ret_bool (by simp; omega), hb1.trans ((hb2.trans (hb3.mono hb2.size)).mono hb1.size)⟩

/-- what the bound gives -/
theorem short {H : Type} {s t : ByteArray} (hk : Rows.uptoSmall H [DataW.lit (H := H) (.string s.data.toList), DataW.lit (H := H) (.string t.data.toList)] = true) : s.size ≤ 1048576 ∧ t.size ≤ 1048576 := by
  have h : Rows.uptoBulkAll [DataW.lit (H := H) (.string s.data.toList), DataW.lit (H := H) (.string t.data.toList)] ≤ 1048576 := of_decide_eq_true hk
  simp only [Rows.uptoBulkAll, Rows.uptoBulk] at h
  have es : s.data.toList.length = s.size := Array.length_toList
  have et : t.data.toList.length = t.size := Array.length_toList
  omega

theorem contract (H : Type) (enc : TypeId × Value → H) (W : World) (base : Nat) (args : Array Value) (ds gs : List (DataW H)) (before : List MemPlace)
    (hval : ∀ (j : Nat) t v, Tryd.f5.params[j]? = some t → args[j]? = some v → Value.okWide Tryd.prog W .any base t v)
    (hW : DataW.Whole enc Tryd.prog Tryd.f5.params.toList Rows.fnQueryPiecesSpec.vars false W args.toList ds gs before) (hk : Rows.uptoSmall H (ds ++ gs) = true) (hL : laidMetH Tryd.prog Rows.fnQueryPiecesRow.laid W) :
    Calls Tryd.prog 5 args W fun e W' => ∃ v, e = .returned v ∧ Rows.fnQueryPiecesSpec.post enc Tryd.prog Tryd.f5 false true false false W args v W' := by
  have hW' := hW
  obtain ⟨p, q, hA0, hV, rfl, hfz, hnd⟩ := hW
  have hA : DataW.TrodAll enc Tryd.prog W 0 (fun _ => true) true Tryd.f5.params.toList args.toList ds p := hA0
  rw [Tryd.params5] at hA hval
  obtain ⟨v0, vs0, d0, ds0, p0, q0, hargs, rfl, rfl, h0, r0⟩ := trodAll_cons hA
  obtain ⟨v1, vs1, d1, ds1, p1, q1, rfl, rfl, rfl, h1, r1⟩ := trodAll_cons r0
  obtain ⟨rfl, rfl, rfl⟩ := trodAll_nil r1
  obtain rfl : args = #[v0, v1] := by cases args; simp_all
  obtain ⟨rfl, rfl⟩ := trodVars_none hV
  obtain ⟨s, rfl, rfl, rfl, hmax⟩ := open_string Tryd.underlying9 (hval 0 9 v0 rfl rfl) h0
  obtain ⟨t, rfl, rfl, rfl, hmax1⟩ := open_string Tryd.underlying9 (hval 1 9 v1 rfl rfl) h1
  clear hA0
  simp only [List.append_nil] at hk
  simp only [List.append_nil] at hW'
  refine (walk s t W (tabAt_of hL) (short hk).1 (short hk).2).mono fun e W' ⟨he, hb⟩ => ?_
  subst he
  exact ⟨_, rfl, _, _, _, [], [], [], hW', trodAll_cons_mk (shut_bool Tryd.underlying4 _) trodAll_mk0, trodAll_cons_mk (shut_string Tryd.underlying9 hmax) (trodAll_cons_mk (shut_string Tryd.underlying9 hmax1) trodAll_mk0), rfl, hb.frame _, fun h => by cases h⟩

/-- A WORLD FOR THE WITNESS: the settled one, the table holding what its initialiser lays. -/
noncomputable def laidWorld (os : Os) : World :=
  { World.holding Tryd.prog os ⟨#[], #[], []⟩ with heap := (World.holding Tryd.prog os ⟨#[], #[], []⟩).heap.modify 0 fun
      | .cells _ t frozen => .cells (tabZ.map (Value.int .u8)).toArray t frozen
      | o => o }
theorem laid_met (os : Os) : laidMet Tryd.prog Rows.fnQueryPiecesRow.laid ((laidWorld os).forCall (fun _ _ => 0) ⟨#[], #[.string .empty, .string .empty], []⟩).memory :=
  laidMet_of_run' 8 (by kernel_rfl) (by kernel_rfl)
theorem reads (os : Os) {H : Type} (enc : TypeId × Value → H) : ∃ places, DataW.whole enc Tryd.prog ((laidWorld os).forCall (fun _ _ => 0) ⟨#[], #[.string .empty, .string .empty], []⟩).memory Tryd.f5.params.toList Rows.fnQueryPiecesSpec.vars false #[Value.string .empty, Value.string .empty].toList 8 = some ([.lit (.string []), .lit (.string [])], [], places) :=
  ⟨[], by kernel_rfl⟩

set_option maxRecDepth 100000 in
theorem lifted (os : Os) (started : os.Started) (H : Type) (enc : TypeId × Value → H) (F : Stop.Interp) :
    ReturnsInHanded {} Tryd.checked os 5 .any ((Rows.OpenSpec.upto Rows.fnQueryPiecesSpec).preRow enc Tryd.prog Tryd.f5 Rows.fnQueryPiecesUptoRow.domain false Rows.fnQueryPiecesUptoRow.laid) (((Rows.OpenSpec.upto Rows.fnQueryPiecesSpec).at F).post enc Tryd.prog Tryd.f5 false true false false) := by
  obtain ⟨places, hx⟩ := reads os enc
  refine returnsInHanded_of_row (C := Tryd.checked) (s := Rows.OpenSpec.upto Rows.fnQueryPiecesSpec) own started (by kernel_rfl) Tryd.func5
    (witness_row_at (enc := enc) (C := Tryd.checked) false (laidWorld os) #[.string .empty, .string .empty] rfl (by kernel_rfl) (by kernel_rfl) (by kernel_rfl)
      (OpenSpec.preRow_of_cond 8 hx (by kernel_rfl) (fun k hk => by cases hk; kernel_rfl) (by kernel_rfl) (laid_met os))) ?_
  intro W base args ds gs before hval hW _ hcond hz hL _ _
  exact contract H enc W base args ds gs before hval hW (hcond _ rfl) hL

theorem said : Rows.FnQueryPiecesUptoSaid :=
  OpenClaim.holds_of_cond 5 Tryd.f5 rfl rfl rfl rfl rfl rfl rfl ⟨rfl, rfl, rfl, rfl, rfl⟩ rfl rfl rfl rfl rfl (by kernel_rfl) Tryd.func5 (by kernel_rfl)
    (of_decide_eq_true (by kernel_rfl)) (by unfold Func.isWrapper; first | (rw [if_pos (by decide +kernel)]; kernel_rfl) | (rw [if_neg (by decide +kernel)]; exact ⟨rfl, rfl⟩))
    (fun os started H enc _ F => by rw [OpenClaim.pre_eq_preRow]; exact lifted os started H enc F)

theorem plain (f : FuncId) (fn : Func) (hf : Tryd.pinned.checked.prog.funcNamed "loop.example/lib-g03409/laws.FnQueryPieces" = some f) (hfn : Tryd.pinned.checked.prog.funcs[f]? = some fn) :
    false = Tryd.pinned.checked.prog.looks [] ∧ ∀ (j : Nat) t, fn.params[j]? = some t → Tryd.pinned.checked.prog.wantsStandIn t = false := by
  obtain rfl : f = 5 := Option.some.inj ((show Tryd.prog.funcNamed "loop.example/lib-g03409/laws.FnQueryPieces" = some 5 by kernel_rfl).symm.trans hf) |>.symm
  obtain rfl : fn = Tryd.f5 := (Option.some.inj (Tryd.func5.symm.trans hfn)).symm
  refine ⟨by kernel_rfl, fun j t ht => ?_⟩
  rw [Tryd.params5] at ht
  obtain rfl : t = 9 := by simpa using Array.mem_of_getElem? ht
  exact (show Tryd.prog.wantsStandIn 9 = false by kernel_rfl)

/-- THE CARD -/
theorem card : Rows.FnQueryPiecesUptoCardSaid :=
  Claim7.holds_tied_plain_at .later [] _ _ _ _ said (fun _ h => by cases h) (by kernel_rfl) (fun _ h => by cases h) fnQueryPiecesUpto_row_tie rfl ⟨rfl, rfl⟩ (by kernel_rfl) rfl plain (by kernel_rfl)
end Go.Proofs.YtdddhhifdakfmaaDoor.fnQueryPieces
