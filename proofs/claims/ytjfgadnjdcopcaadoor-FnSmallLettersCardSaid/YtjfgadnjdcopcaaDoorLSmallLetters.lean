/-
  The law FnSmallLetters: it makes no difference whether the digits of escapes are capital letters or small ones: true for every string (of at most 2^47 - 4096 bytes, as each row of the form says).
-/
import Derived.Test.YtjfgadnjdcopcaaDoorCards
import Derived.Test.YtjfgadnjdcopcaaDoorTie
import Derived.Test.YtjfgadnjdcopcaaDoorImplU
import Derived.Test.YtjfgadnjdcopcaaDoorSpecV
import Derived.Test.YtjfgadnjdcopcaaDoorSmallF
import Derived.ProofKit
import Derived.OpenShut
import Derived.Deep.DeepHandedRow
import Derived.SizedLaws
namespace Go.Proofs.YtjfgadnjdcopcaaDoor.fnSmallLetters
open Go.ChangeShapes Go.WideShapes Go.ChangeAt Go.RowKit
open Go.ChangeMaps (open_string shut_string)

theorem own : ownKnob Tryd.prog.godebug = none := by kernel_rfl

set_option maxHeartbeats 1000000 in
/-- THE WALK -/
theorem walk (s : ByteArray) (w : World) (ht : TabAt w) (hs : s.size ≤ 140737488351232) :
    Calls Tryd.prog 6 #[.string s] w fun e w' => e = .returned (.bool true) ∧ Below w.heap.size w w' := by
  have Z := Lib.hid (show (mk (Pl.small (bl s))).size = s.size by rw [size_mk, Pl.small_length, length_bl])
  rcases une_same (bl s) with ⟨u1, u2⟩ | ⟨x, y, u1, u2⟩
  · have U1 := Lib.hid u1; clear u1
    have U2 := Lib.hid u2; clear u2
    have ht0 := ht
    have hB0 := Below.refl w.heap.size w
    go_enter Tryd.func6, Tryd.ntmps6
    go_wp2_with fail
    refine (impl_unpath_no s w ht0 (by omega) U1.out).mono ?_
    rintro e w1 ⟨rfl, hb1⟩
    have hB1 := hB0.trans (hb1.mono hB0.size)
    have ht1 := ht0.below hb1 (tab_lt ht0)
    go_wp2_with fail
    refine (small_any s w1 (by omega)).mono ?_
    rintro e w2 ⟨rfl, hb2⟩
    have hB2 := hB1.trans (hb2.mono hB1.size)
    have ht2 := ht1.below hb2 (tab_lt ht1)
    go_wp2_with fail
    refine (impl_unpath_no (mk (Pl.small (bl s))) w2 ht2 (by rw [Z.out]; omega) (by rw [bl_mk, Pl.une_small]; exact U1.out)).mono ?_
    rintro e w3 ⟨rfl, hb3⟩
    have hB3 := hB2.trans (hb3.mono hB2.size)
    have ht3 := ht2.below hb3 (tab_lt ht2)
    go_wp2_with fail
    refine (impl_unquery_no s w3 ht3 (by omega) U2.out).mono ?_
    rintro e w4 ⟨rfl, hb4⟩
    have hB4 := hB3.trans (hb4.mono hB3.size)
    have ht4 := ht3.below hb4 (tab_lt ht3)
    go_wp2_with fail
    refine (small_any s w4 (by omega)).mono ?_
    rintro e w5 ⟨rfl, hb5⟩
    have hB5 := hB4.trans (hb5.mono hB4.size)
    have ht5 := ht4.below hb5 (tab_lt ht4)
    go_wp2_with fail
    refine (impl_unquery_no (mk (Pl.small (bl s))) w5 ht5 (by rw [Z.out]; omega) (by rw [bl_mk, Pl.une_small]; exact U2.out)).mono ?_
    rintro e w6 ⟨rfl, hb6⟩
    have hB6 := hB5.trans (hb6.mono hB5.size)
    have ht6 := ht5.below hb6 (tab_lt ht5)
    go_wp2_with fail
    refine (spec_unpath_no s w6 (by omega) U1.out).mono ?_
    rintro e w7 ⟨rfl, hb7⟩
    have hB7 := hB6.trans (hb7.mono hB6.size)
    have ht7 := ht6.below hb7 (tab_lt ht6)
    go_wp2
    go_ret
    exact ⟨ret_bool (by simp), hB7⟩
  · have l1 := une_le_p _ _ u1
    have l2 := une_le_q _ _ u2
    rw [length_bl] at l1 l2
    have U1 := Lib.hid u1; clear u1
    have U2 := Lib.hid u2; clear u2
    have ht0 := ht
    have hB0 := Below.refl w.heap.size w
    go_enter Tryd.func6, Tryd.ntmps6
    go_wp2_with fail
    refine (impl_unpath_ok s x w ht0 (by omega) U1.out (by omega)).mono ?_
    rintro e w1 ⟨rfl, hb1⟩
    have hB1 := hB0.trans (hb1.mono hB0.size)
    have ht1 := ht0.below hb1 (tab_lt ht0)
    go_wp2_with fail
    refine (small_any s w1 (by omega)).mono ?_
    rintro e w2 ⟨rfl, hb2⟩
    have hB2 := hB1.trans (hb2.mono hB1.size)
    have ht2 := ht1.below hb2 (tab_lt ht1)
    go_wp2_with fail
    refine (impl_unpath_ok (mk (Pl.small (bl s))) x w2 ht2 (by rw [Z.out]; omega) (by rw [bl_mk, Pl.une_small]; exact U1.out) (by omega)).mono ?_
    rintro e w3 ⟨rfl, hb3⟩
    have hB3 := hB2.trans (hb3.mono hB2.size)
    have ht3 := ht2.below hb3 (tab_lt ht2)
    go_wp2_with fail
    refine (impl_unquery_ok s y w3 ht3 (by omega) U2.out (by omega)).mono ?_
    rintro e w4 ⟨rfl, hb4⟩
    have hB4 := hB3.trans (hb4.mono hB3.size)
    have ht4 := ht3.below hb4 (tab_lt ht3)
    go_wp2_with fail
    refine (small_any s w4 (by omega)).mono ?_
    rintro e w5 ⟨rfl, hb5⟩
    have hB5 := hB4.trans (hb5.mono hB4.size)
    have ht5 := ht4.below hb5 (tab_lt ht4)
    go_wp2_with fail
    refine (impl_unquery_ok (mk (Pl.small (bl s))) y w5 ht5 (by rw [Z.out]; omega) (by rw [bl_mk, Pl.une_small]; exact U2.out) (by omega)).mono ?_
    rintro e w6 ⟨rfl, hb6⟩
    have hB6 := hB5.trans (hb6.mono hB5.size)
    have ht6 := ht5.below hb6 (tab_lt ht5)
    go_wp2_with fail
    refine (spec_unpath_ok s x w6 (by omega) U1.out).mono ?_
    rintro e w7 ⟨rfl, hb7⟩
    have hB7 := hB6.trans (hb7.mono hB6.size)
    have ht7 := ht6.below hb7 (tab_lt ht6)
    go_wp2
    go_ret
    exact ⟨ret_bool (by simp), hB7⟩

/-- what the form's reach gives -/
theorem short {H : Type} (ts : List TypeId) {s : ByteArray} {ds : List (DataW H)} {j : Nat} {t : TypeId} (hz : (DataW.weightsEach Tryd.prog ts ds).all (· ≤ reachBytes) = true) (ht : ts[j]? = some t) (hd : ds[j]? = some (.lit (.string s.data.toList))) : s.size ≤ 140737488351232 := by
  have h := sized_string hz ht hd
  have e : s.data.toList.length = s.size := Array.length_toList
  rw [e] at h
  exact h

theorem contract (H : Type) (enc : TypeId × Value → H) (W : World) (base : Nat) (args : Array Value) (ds gs : List (DataW H)) (before : List MemPlace)
    (hval : ∀ (j : Nat) t v, Tryd.f6.params[j]? = some t → args[j]? = some v → Value.okWide Tryd.prog W .any base t v)
    (hW : DataW.Whole enc Tryd.prog Tryd.f6.params.toList Rows.fnSmallLettersSpec.vars false W args.toList ds gs before) (hz : (DataW.weightsEach Tryd.prog (Tryd.f6.params.toList ++ []) (ds ++ gs)).all (· ≤ reachBytes) = true) (hL : laidMetH Tryd.prog Rows.fnSmallLettersRow.laid W) :
    Calls Tryd.prog 6 args W fun e W' => ∃ v, e = .returned v ∧ Rows.fnSmallLettersSpec.post enc Tryd.prog Tryd.f6 false true false false W args v W' := by
  have hW' := hW
  obtain ⟨p, q, hA0, hV, rfl, hfz, hnd⟩ := hW
  have hA : DataW.TrodAll enc Tryd.prog W 0 (fun _ => true) true Tryd.f6.params.toList args.toList ds p := hA0
  rw [Tryd.params6] at hA hval hz
  obtain ⟨v0, vs0, d0, ds0, p0, q0, hargs, rfl, rfl, h0, r0⟩ := trodAll_cons hA
  obtain ⟨rfl, rfl, rfl⟩ := trodAll_nil r0
  obtain rfl : args = #[v0] := by cases args; simp_all
  obtain ⟨rfl, rfl⟩ := trodVars_none hV
  obtain ⟨s, rfl, rfl, rfl, hmax⟩ := open_string Tryd.underlying9 (hval 0 9 v0 rfl rfl) h0
  clear hA0
  simp only [List.append_nil] at hW'
  refine (walk s W (tabAt_of hL) (short _ (j := 0) hz rfl rfl)).mono fun e W' ⟨he, hb⟩ => ?_
  subst he
  exact ⟨_, rfl, _, _, _, [], [], [], hW', trodAll_cons_mk (shut_bool Tryd.underlying4 _) trodAll_mk0, trodAll_cons_mk (shut_string Tryd.underlying9 hmax) trodAll_mk0, rfl, hb.frame _, fun h => by cases h⟩

/-- A WORLD FOR THE WITNESS: the settled one, the table holding what its initialiser lays. -/
noncomputable def laidWorld (os : Os) : World :=
  { World.holding Tryd.prog os ⟨#[], #[], []⟩ with heap := (World.holding Tryd.prog os ⟨#[], #[], []⟩).heap.modify 0 fun
      | .cells _ t frozen => .cells (tabZ.map (Value.int .u8)).toArray t frozen
      | o => o }
theorem laid_met (os : Os) : laidMet Tryd.prog Rows.fnSmallLettersRow.laid ((laidWorld os).forCall (fun _ _ => 0) ⟨#[], #[.string .empty], []⟩).memory :=
  laidMet_of_run' 8 (by kernel_rfl) (by kernel_rfl)
theorem reads (os : Os) {H : Type} (enc : TypeId × Value → H) : ∃ places, DataW.whole enc Tryd.prog ((laidWorld os).forCall (fun _ _ => 0) ⟨#[], #[.string .empty], []⟩).memory Tryd.f6.params.toList Rows.fnSmallLettersSpec.vars false #[Value.string .empty].toList 8 = some ([.lit (.string [])], [], places) :=
  ⟨[], by kernel_rfl⟩

set_option maxRecDepth 100000 in
theorem lifted (os : Os) (started : os.Started) (H : Type) (enc : TypeId × Value → H) (F : Stop.Interp) :
    ReturnsInHanded {} Tryd.checked os 6 .any ((OpenSpec.ofChange Rows.fnSmallLettersSpec).preRow enc Tryd.prog Tryd.f6 Rows.fnSmallLettersRow.domain false Rows.fnSmallLettersRow.laid) (((OpenSpec.ofChange Rows.fnSmallLettersSpec).at F).post enc Tryd.prog Tryd.f6 false true false false) := by
  obtain ⟨places, hx⟩ := reads os enc
  refine returnsInHanded_of_row (C := Tryd.checked) (s := OpenSpec.ofChange Rows.fnSmallLettersSpec) own started (by kernel_rfl) Tryd.func6
    (witness_row_at (enc := enc) (C := Tryd.checked) false (laidWorld os) #[.string .empty] rfl (by kernel_rfl) (by kernel_rfl) (by kernel_rfl)
      (OpenSpec.preRow_of_cond 8 hx (by kernel_rfl) (fun k hk => by cases hk) (by kernel_rfl) (laid_met os))) ?_
  intro W base args ds gs before hval hW _ hcond hz hL _ _
  exact contract H enc W base args ds gs before hval hW hz hL

theorem said : Rows.FnSmallLettersSaid :=
  OpenClaim.holds_of_cond 6 Tryd.f6 rfl rfl rfl rfl rfl rfl rfl ⟨rfl, rfl, rfl, rfl, rfl⟩ rfl rfl rfl rfl rfl (by kernel_rfl) Tryd.func6 (by kernel_rfl)
    (of_decide_eq_true (by kernel_rfl)) (by unfold Func.isWrapper; first | (rw [if_pos (by decide +kernel)]; kernel_rfl) | (rw [if_neg (by decide +kernel)]; exact ⟨rfl, rfl⟩))
    (fun os started H enc _ F => by rw [OpenClaim.pre_eq_preRow]; exact lifted os started H enc F)

theorem plain (f : FuncId) (fn : Func) (hf : Tryd.pinned.checked.prog.funcNamed "loop.example/lib-g03409/laws.FnSmallLetters" = some f) (hfn : Tryd.pinned.checked.prog.funcs[f]? = some fn) :
    false = Tryd.pinned.checked.prog.looks [] ∧ ∀ (j : Nat) t, fn.params[j]? = some t → Tryd.pinned.checked.prog.wantsStandIn t = false := by
  obtain rfl : f = 6 := Option.some.inj ((show Tryd.prog.funcNamed "loop.example/lib-g03409/laws.FnSmallLetters" = some 6 by kernel_rfl).symm.trans hf) |>.symm
  obtain rfl : fn = Tryd.f6 := (Option.some.inj (Tryd.func6.symm.trans hfn)).symm
  refine ⟨by kernel_rfl, fun j t ht => ?_⟩
  rw [Tryd.params6] at ht
  obtain rfl : t = 9 := by simpa using Array.mem_of_getElem? ht
  exact (show Tryd.prog.wantsStandIn 9 = false by kernel_rfl)

/-- THE CARD -/
theorem card : Rows.FnSmallLettersCardSaid :=
  Claim7.holds_tied_plain_at .later [] _ _ _ _ said (fun _ h => by cases h) (by kernel_rfl) (fun _ h => by cases h) fnSmallLetters_row_tie rfl ⟨rfl, rfl⟩ (by kernel_rfl) rfl plain (by kernel_rfl)
end Go.Proofs.YtjfgadnjdcopcaaDoor.fnSmallLetters
