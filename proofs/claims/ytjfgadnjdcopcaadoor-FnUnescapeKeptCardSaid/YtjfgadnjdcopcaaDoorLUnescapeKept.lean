/-
  The law FnUnescapeKept: a text without % and without plus signs is unescaped to itself: true for every string (of at most 2^47 - 4096 bytes, as each row of the form says).
-/
import Derived.Test.YtjfgadnjdcopcaaDoorCards
import Derived.Test.YtjfgadnjdcopcaaDoorTie
import Derived.Test.YtjfgadnjdcopcaaDoorImplU
import Derived.Test.YtjfgadnjdcopcaaDoorCount
import Derived.ProofKit
import Derived.OpenShut
import Derived.Deep.DeepHandedRow
import Derived.SizedLaws
namespace Go.Proofs.YtjfgadnjdcopcaaDoor.fnUnescapeKept
open Go.ChangeShapes Go.WideShapes Go.ChangeAt Go.RowKit
open Go.ChangeMaps (open_string shut_string)

theorem own : ownKnob Tryd.prog.godebug = none := by kernel_rfl

set_option maxHeartbeats 1000000 in
/-- THE WALK -/
theorem walk (s : ByteArray) (w : World) (ht : TabAt w) (hs : s.size ≤ 140737488351232) :
    Calls Tryd.prog 7 #[.string s] w fun e w' => e = .returned (.bool true) ∧ Below w.heap.size w w' := by
  cases k1 : Pl.isIn (bl s) 37 with
  | true =>
    have K1 := Lib.hid k1; clear k1
    have ht0 := ht
    have hB0 := Below.refl w.heap.size w
    go_enter Tryd.func7, Tryd.ntmps7
    go_wp2_with fail
    refine (within_any 37 s w (by omega)).mono ?_
    rintro e wx ⟨rfl, rfl⟩
    rw [K1.out]
    go_wp2_with fail
    go_ret
    exact ⟨rfl, Below.refl _ _⟩
  | false =>
    cases k2 : Pl.isIn (bl s) 43 with
    | true =>
      have K1 := Lib.hid k1; clear k1
      have K2 := Lib.hid k2; clear k2
      have ht0 := ht
      have hB0 := Below.refl w.heap.size w
      go_enter Tryd.func7, Tryd.ntmps7
      go_wp2_with fail
      refine (within_any 37 s w (by omega)).mono ?_
      rintro e wx ⟨rfl, rfl⟩
      rw [K1.out]
      go_wp2_with fail
      refine (within_any 43 s w (by omega)).mono ?_
      rintro e wx ⟨rfl, rfl⟩
      rw [K2.out]
      go_wp2_with fail
      go_ret
      exact ⟨rfl, Below.refl _ _⟩
    | false =>
      have n1 : (bl s).count 37 = 0 := by unfold Pl.isIn at k1; have := of_decide_eq_false k1; omega
      have n2 : (bl s).count 43 = 0 := by unfold Pl.isIn at k2; have := of_decide_eq_false k2; omega
      have U1 := Lib.hid (Pl.une_kept 43 _ n1 n2)
      have U2 := Lib.hid (Pl.une_kept 32 _ n1 n2)
      have K1 := Lib.hid k1; clear k1 n1
      have K2 := Lib.hid k2; clear k2 n2
      have ht0 := ht
      have hB0 := Below.refl w.heap.size w
      go_enter Tryd.func7, Tryd.ntmps7
      go_wp2_with fail
      refine (within_any 37 s w (by omega)).mono ?_
      rintro e wx ⟨rfl, rfl⟩
      rw [K1.out]
      go_wp2_with fail
      refine (within_any 43 s w (by omega)).mono ?_
      rintro e wx ⟨rfl, rfl⟩
      rw [K2.out]
      go_wp2_with fail
      refine (impl_unpath_ok s (bl s) w ht0 (by omega) U1.out (by rw [length_bl]; omega)).mono ?_
      rintro e w1 ⟨rfl, hb1⟩
      have hB1 := hB0.trans (hb1.mono hB0.size)
      have ht1 := ht0.below hb1 (tab_lt ht0)
      rw [mk_bl]
      go_wp2_with fail
      refine (impl_unquery_ok s (bl s) w1 ht1 (by omega) U2.out (by rw [length_bl]; omega)).mono ?_
      rintro e w2 ⟨rfl, hb2⟩
      have hB2 := hB1.trans (hb2.mono hB1.size)
      have ht2 := ht1.below hb2 (tab_lt ht1)
      rw [mk_bl]
      go_wp2
      go_ret
      exact ⟨ret_bool (by simp), hB2⟩

/-- what the form's reach gives -/
theorem short {H : Type} (ts : List TypeId) {s : ByteArray} {ds : List (DataW H)} {j : Nat} {t : TypeId} (hz : (DataW.weightsEach Tryd.prog ts ds).all (· ≤ reachBytes) = true) (ht : ts[j]? = some t) (hd : ds[j]? = some (.lit (.string s.data.toList))) : s.size ≤ 140737488351232 := by
  have h := sized_string hz ht hd
  have e : s.data.toList.length = s.size := Array.length_toList
  rw [e] at h
  exact h

theorem contract (H : Type) (enc : TypeId × Value → H) (W : World) (base : Nat) (args : Array Value) (ds gs : List (DataW H)) (before : List MemPlace)
    (hval : ∀ (j : Nat) t v, Tryd.f7.params[j]? = some t → args[j]? = some v → Value.okWide Tryd.prog W .any base t v)
    (hW : DataW.Whole enc Tryd.prog Tryd.f7.params.toList Rows.fnUnescapeKeptSpec.vars false W args.toList ds gs before) (hz : (DataW.weightsEach Tryd.prog (Tryd.f7.params.toList ++ []) (ds ++ gs)).all (· ≤ reachBytes) = true) (hL : laidMetH Tryd.prog Rows.fnUnescapeKeptRow.laid W) :
    Calls Tryd.prog 7 args W fun e W' => ∃ v, e = .returned v ∧ Rows.fnUnescapeKeptSpec.post enc Tryd.prog Tryd.f7 false true false false W args v W' := by
  have hW' := hW
  obtain ⟨p, q, hA0, hV, rfl, hfz, hnd⟩ := hW
  have hA : DataW.TrodAll enc Tryd.prog W 0 (fun _ => true) true Tryd.f7.params.toList args.toList ds p := hA0
  rw [Tryd.params7] at hA hval hz
  obtain ⟨v0, vs0, d0, ds0, p0, q0, hargs, rfl, rfl, h0, r0⟩ := trodAll_cons hA
  obtain ⟨rfl, rfl, rfl⟩ := trodAll_nil r0
  obtain rfl : args = #[v0] := by cases args; simp_all
  obtain ⟨rfl, rfl⟩ := trodVars_none hV
  obtain ⟨s, rfl, rfl, rfl, hmax⟩ := open_string Tryd.underlying9 (hval 0 9 v0 rfl rfl) h0
  clear hA0
  simp only [List.append_nil] at hW'
  refine (walk s W (tabAt_of hL) (short _ (j := 0) hz rfl rfl)).mono fun e W' ⟨he, hb⟩ => ?_
  subst he
  exact ⟨_, rfl, _, _, _, [], [], [], hW', trodAll_cons_mk (shut_bool Tryd.underlying4 _) trodAll_mk0, trodAll_cons_mk (shut_string Tryd.underlying9 hmax) trodAll_mk0, rfl, hb.frame _, fun h => by cases h⟩

/-- A WORLD FOR THE WITNESS: the settled one, the table holding what its initialiser lays. -/
noncomputable def laidWorld (os : Os) : World :=
  { World.holding Tryd.prog os ⟨#[], #[], []⟩ with heap := (World.holding Tryd.prog os ⟨#[], #[], []⟩).heap.modify 0 fun
      | .cells _ t frozen => .cells (tabZ.map (Value.int .u8)).toArray t frozen
      | o => o }
theorem laid_met (os : Os) : laidMet Tryd.prog Rows.fnUnescapeKeptRow.laid ((laidWorld os).forCall (fun _ _ => 0) ⟨#[], #[.string .empty], []⟩).memory :=
  laidMet_of_run' 8 (by kernel_rfl) (by kernel_rfl)
theorem reads (os : Os) {H : Type} (enc : TypeId × Value → H) : ∃ places, DataW.whole enc Tryd.prog ((laidWorld os).forCall (fun _ _ => 0) ⟨#[], #[.string .empty], []⟩).memory Tryd.f7.params.toList Rows.fnUnescapeKeptSpec.vars false #[Value.string .empty].toList 8 = some ([.lit (.string [])], [], places) :=
  ⟨[], by kernel_rfl⟩

set_option maxRecDepth 100000 in
theorem lifted (os : Os) (started : os.Started) (H : Type) (enc : TypeId × Value → H) (F : Stop.Interp) :
    ReturnsInHanded {} Tryd.checked os 7 .any ((OpenSpec.ofChange Rows.fnUnescapeKeptSpec).preRow enc Tryd.prog Tryd.f7 Rows.fnUnescapeKeptRow.domain false Rows.fnUnescapeKeptRow.laid) (((OpenSpec.ofChange Rows.fnUnescapeKeptSpec).at F).post enc Tryd.prog Tryd.f7 false true false false) := by
  obtain ⟨places, hx⟩ := reads os enc
  refine returnsInHanded_of_row (C := Tryd.checked) (s := OpenSpec.ofChange Rows.fnUnescapeKeptSpec) own started (by kernel_rfl) Tryd.func7
    (witness_row_at (enc := enc) (C := Tryd.checked) false (laidWorld os) #[.string .empty] rfl (by kernel_rfl) (by kernel_rfl) (by kernel_rfl)
      (OpenSpec.preRow_of_cond 8 hx (by kernel_rfl) (fun k hk => by cases hk) (by kernel_rfl) (laid_met os))) ?_
  intro W base args ds gs before hval hW _ hcond hz hL _ _
  exact contract H enc W base args ds gs before hval hW hz hL

theorem said : Rows.FnUnescapeKeptSaid :=
  OpenClaim.holds_of_cond 7 Tryd.f7 rfl rfl rfl rfl rfl rfl rfl ⟨rfl, rfl, rfl, rfl, rfl⟩ rfl rfl rfl rfl rfl (by kernel_rfl) Tryd.func7 (by kernel_rfl)
    (of_decide_eq_true (by kernel_rfl)) (by unfold Func.isWrapper; first | (rw [if_pos (by decide +kernel)]; kernel_rfl) | (rw [if_neg (by decide +kernel)]; exact ⟨rfl, rfl⟩))
    (fun os started H enc _ F => by rw [OpenClaim.pre_eq_preRow]; exact lifted os started H enc F)

theorem plain (f : FuncId) (fn : Func) (hf : Tryd.pinned.checked.prog.funcNamed "loop.example/lib-g03409/laws.FnUnescapeKept" = some f) (hfn : Tryd.pinned.checked.prog.funcs[f]? = some fn) :
    false = Tryd.pinned.checked.prog.looks [] ∧ ∀ (j : Nat) t, fn.params[j]? = some t → Tryd.pinned.checked.prog.wantsStandIn t = false := by
  obtain rfl : f = 7 := Option.some.inj ((show Tryd.prog.funcNamed "loop.example/lib-g03409/laws.FnUnescapeKept" = some 7 by kernel_rfl).symm.trans hf) |>.symm
  obtain rfl : fn = Tryd.f7 := (Option.some.inj (Tryd.func7.symm.trans hfn)).symm
  refine ⟨by kernel_rfl, fun j t ht => ?_⟩
  rw [Tryd.params7] at ht
  obtain rfl : t = 9 := by simpa using Array.mem_of_getElem? ht
  exact (show Tryd.prog.wantsStandIn 9 = false by kernel_rfl)

/-- THE CARD -/
theorem card : Rows.FnUnescapeKeptCardSaid :=
  Claim7.holds_tied_plain_at .later [] _ _ _ _ said (fun _ h => by cases h) (by kernel_rfl) (fun _ h => by cases h) fnUnescapeKept_row_tie rfl ⟨rfl, rfl⟩ (by kernel_rfl) rfl plain (by kernel_rfl)
end Go.Proofs.YtjfgadnjdcopcaaDoor.fnUnescapeKept
