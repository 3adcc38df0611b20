/-
  The law FnUnescapeTwice: a % that is escaped is unescaped once, not twice: true for every string (of at most 2^47 - 4096 bytes, as each row of the form says).
-/
import Derived.Test.YtjfgadnjdcopcaaDoorCards
import Derived.Test.YtjfgadnjdcopcaaDoorTie
import Derived.Test.YtjfgadnjdcopcaaDoorImplU
import Derived.Test.YtjfgadnjdcopcaaDoorWrite
import Derived.ProofKit
import Derived.OpenShut
import Derived.Deep.DeepHandedRow
import Derived.SizedLaws
namespace Go.Proofs.YtjfgadnjdcopcaaDoor.fnUnescapeTwice
open Go.ChangeShapes Go.WideShapes Go.ChangeAt Go.RowKit
open Go.ChangeMaps (open_string shut_string)

theorem own : ownKnob Tryd.prog.godebug = none := by kernel_rfl
theorem wr3 (l : List UInt8) (a b c d : UInt8) : (Pl.wr l a [b, c, d]).length ≤ 3 * l.length := Pl.flat_le _ (fun x => by unfold Pl.wf; split <;> simp) _

set_option maxHeartbeats 1000000 in
/-- THE WALK -/
theorem walk (s : ByteArray) (w : World) (ht : TabAt w) (hs : s.size ≤ 140737488351232) :
    Calls Tryd.prog 9 #[.string s] w fun e w' => e = .returned (.bool true) ∧ Below w.heap.size w w' := by
  have l1 := wr3 (bl s) 37 37 50 53
  have l2 := wr3 (Pl.wr (bl s) 37 [37, 50, 53]) 43 37 50 66
  rw [length_bl] at l1
  have Z1 := Lib.hid (size_mk (Pl.wr (bl s) 37 [37, 50, 53]))
  have Z2 := Lib.hid (size_mk (Pl.wr (Pl.wr (bl s) 37 [37, 50, 53]) 43 [37, 50, 66]))
  have U1 := Lib.hid (Pl.twice_p (bl s))
  have U2 := Lib.hid (Pl.twice_q (bl s))
  have ht0 := ht
  have hB0 := Below.refl w.heap.size w
  go_enter Tryd.func9, Tryd.ntmps9
  go_wp2_with fail
  refine (write_any s 37 ⟨#[37, 50, 53]⟩ w (by omega) (by decide) (by show (Pl.wr _ 37 [37, 50, 53]).length ≤ _; omega)).mono ?_
  rintro e wx ⟨rfl, rfl⟩
  rw [show bl ⟨#[37, 50, 53]⟩ = [37, 50, 53] from rfl]
  go_wp2_with fail
  refine (impl_unpath_ok (mk (Pl.wr (bl s) 37 [37, 50, 53])) (bl s) w ht0 (by rw [Z1.out]; omega) (by rw [bl_mk]; exact U1.out) (by rw [length_bl]; omega)).mono ?_
  rintro e w1 ⟨rfl, hb1⟩
  have hB1 := hB0.trans (hb1.mono hB0.size)
  have ht1 := ht0.below hb1 (tab_lt ht0)
  rw [mk_bl]
  go_wp2_with fail
  refine (write_any s 37 ⟨#[37, 50, 53]⟩ w1 (by omega) (by decide) (by show (Pl.wr _ 37 [37, 50, 53]).length ≤ _; omega)).mono ?_
  rintro e wx ⟨rfl, rfl⟩
  rw [show bl ⟨#[37, 50, 53]⟩ = [37, 50, 53] from rfl]
  go_wp2_with fail
  refine (write_any (mk (Pl.wr (bl s) 37 [37, 50, 53])) 43 ⟨#[37, 50, 66]⟩ w1 (by rw [Z1.out]; omega) (by decide) (by rw [bl_mk]; show (Pl.wr _ 43 [37, 50, 66]).length ≤ _; omega)).mono ?_
  rintro e wx ⟨rfl, rfl⟩
  rw [bl_mk, show bl ⟨#[37, 50, 66]⟩ = [37, 50, 66] from rfl]
  go_wp2_with fail
  refine (impl_unquery_ok (mk (Pl.wr (Pl.wr (bl s) 37 [37, 50, 53]) 43 [37, 50, 66])) (bl s) w1 ht1 (by rw [Z2.out]; omega) (by rw [bl_mk]; exact U2.out) (by rw [length_bl]; omega)).mono ?_
  rintro e w2 ⟨rfl, hb2⟩
  have hB2 := hB1.trans (hb2.mono hB1.size)
  have ht2 := ht1.below hb2 (tab_lt ht1)
  rw [mk_bl]
  go_wp2
  go_ret
  exact ⟨ret_bool (by simp), hB2⟩

/-- what the form's reach gives -/
theorem short {H : Type} (ts : List TypeId) {s : ByteArray} {ds : List (DataW H)} {j : Nat} {t : TypeId} (hz : (DataW.weightsEach Tryd.prog ts ds).all (· ≤ reachBytes) = true) (ht : ts[j]? = some t) (hd : ds[j]? = some (.lit (.string s.data.toList))) : s.size ≤ 140737488351232 := by
  have h := sized_string hz ht hd
  have e : s.data.toList.length = s.size := Array.length_toList
  rw [e] at h
  exact h

theorem contract (H : Type) (enc : TypeId × Value → H) (W : World) (base : Nat) (args : Array Value) (ds gs : List (DataW H)) (before : List MemPlace)
    (hval : ∀ (j : Nat) t v, Tryd.f9.params[j]? = some t → args[j]? = some v → Value.okWide Tryd.prog W .any base t v)
    (hW : DataW.Whole enc Tryd.prog Tryd.f9.params.toList Rows.fnUnescapeTwiceSpec.vars false W args.toList ds gs before) (hz : (DataW.weightsEach Tryd.prog (Tryd.f9.params.toList ++ []) (ds ++ gs)).all (· ≤ reachBytes) = true) (hL : laidMetH Tryd.prog Rows.fnUnescapeTwiceRow.laid W) :
    Calls Tryd.prog 9 args W fun e W' => ∃ v, e = .returned v ∧ Rows.fnUnescapeTwiceSpec.post enc Tryd.prog Tryd.f9 false true false false W args v W' := by
  have hW' := hW
  obtain ⟨p, q, hA0, hV, rfl, hfz, hnd⟩ := hW
  have hA : DataW.TrodAll enc Tryd.prog W 0 (fun _ => true) true Tryd.f9.params.toList args.toList ds p := hA0
  rw [Tryd.params9] at hA hval hz
  obtain ⟨v0, vs0, d0, ds0, p0, q0, hargs, rfl, rfl, h0, r0⟩ := trodAll_cons hA
  obtain ⟨rfl, rfl, rfl⟩ := trodAll_nil r0
  obtain rfl : args = #[v0] := by cases args; simp_all
  obtain ⟨rfl, rfl⟩ := trodVars_none hV
  obtain ⟨s, rfl, rfl, rfl, hmax⟩ := open_string Tryd.underlying9 (hval 0 9 v0 rfl rfl) h0
  clear hA0
  simp only [List.append_nil] at hW'
  refine (walk s W (tabAt_of hL) (short _ (j := 0) hz rfl rfl)).mono fun e W' ⟨he, hb⟩ => ?_
  subst he
  exact ⟨_, rfl, _, _, _, [], [], [], hW', trodAll_cons_mk (shut_bool Tryd.underlying4 _) trodAll_mk0, trodAll_cons_mk (shut_string Tryd.underlying9 hmax) trodAll_mk0, rfl, hb.frame _, fun h => by cases h⟩

/-- A WORLD FOR THE WITNESS: the settled one, the table holding what its initialiser lays. -/
noncomputable def laidWorld (os : Os) : World :=
  { World.holding Tryd.prog os ⟨#[], #[], []⟩ with heap := (World.holding Tryd.prog os ⟨#[], #[], []⟩).heap.modify 0 fun
      | .cells _ t frozen => .cells (tabZ.map (Value.int .u8)).toArray t frozen
      | o => o }
theorem laid_met (os : Os) : laidMet Tryd.prog Rows.fnUnescapeTwiceRow.laid ((laidWorld os).forCall (fun _ _ => 0) ⟨#[], #[.string .empty], []⟩).memory :=
  laidMet_of_run' 8 (by kernel_rfl) (by kernel_rfl)
theorem reads (os : Os) {H : Type} (enc : TypeId × Value → H) : ∃ places, DataW.whole enc Tryd.prog ((laidWorld os).forCall (fun _ _ => 0) ⟨#[], #[.string .empty], []⟩).memory Tryd.f9.params.toList Rows.fnUnescapeTwiceSpec.vars false #[Value.string .empty].toList 8 = some ([.lit (.string [])], [], places) :=
  ⟨[], by kernel_rfl⟩

set_option maxRecDepth 100000 in
theorem lifted (os : Os) (started : os.Started) (H : Type) (enc : TypeId × Value → H) (F : Stop.Interp) :
    ReturnsInHanded {} Tryd.checked os 9 .any ((OpenSpec.ofChange Rows.fnUnescapeTwiceSpec).preRow enc Tryd.prog Tryd.f9 Rows.fnUnescapeTwiceRow.domain false Rows.fnUnescapeTwiceRow.laid) (((OpenSpec.ofChange Rows.fnUnescapeTwiceSpec).at F).post enc Tryd.prog Tryd.f9 false true false false) := by
  obtain ⟨places, hx⟩ := reads os enc
  refine returnsInHanded_of_row (C := Tryd.checked) (s := OpenSpec.ofChange Rows.fnUnescapeTwiceSpec) own started (by kernel_rfl) Tryd.func9
    (witness_row_at (enc := enc) (C := Tryd.checked) false (laidWorld os) #[.string .empty] rfl (by kernel_rfl) (by kernel_rfl) (by kernel_rfl)
      (OpenSpec.preRow_of_cond 8 hx (by kernel_rfl) (fun k hk => by cases hk) (by kernel_rfl) (laid_met os))) ?_
  intro W base args ds gs before hval hW _ hcond hz hL _ _
  exact contract H enc W base args ds gs before hval hW hz hL

theorem said : Rows.FnUnescapeTwiceSaid :=
  OpenClaim.holds_of_cond 9 Tryd.f9 rfl rfl rfl rfl rfl rfl rfl ⟨rfl, rfl, rfl, rfl, rfl⟩ rfl rfl rfl rfl rfl (by kernel_rfl) Tryd.func9 (by kernel_rfl)
    (of_decide_eq_true (by kernel_rfl)) (by unfold Func.isWrapper; first | (rw [if_pos (by decide +kernel)]; kernel_rfl) | (rw [if_neg (by decide +kernel)]; exact ⟨rfl, rfl⟩))
    (fun os started H enc _ F => by rw [OpenClaim.pre_eq_preRow]; exact lifted os started H enc F)

theorem plain (f : FuncId) (fn : Func) (hf : Tryd.pinned.checked.prog.funcNamed "loop.example/lib-g03409/laws.FnUnescapeTwice" = some f) (hfn : Tryd.pinned.checked.prog.funcs[f]? = some fn) :
    false = Tryd.pinned.checked.prog.looks [] ∧ ∀ (j : Nat) t, fn.params[j]? = some t → Tryd.pinned.checked.prog.wantsStandIn t = false := by
  obtain rfl : f = 9 := Option.some.inj ((show Tryd.prog.funcNamed "loop.example/lib-g03409/laws.FnUnescapeTwice" = some 9 by kernel_rfl).symm.trans hf) |>.symm
  obtain rfl : fn = Tryd.f9 := (Option.some.inj (Tryd.func9.symm.trans hfn)).symm
  refine ⟨by kernel_rfl, fun j t ht => ?_⟩
  rw [Tryd.params9] at ht
  obtain rfl : t = 9 := by simpa using Array.mem_of_getElem? ht
  exact (show Tryd.prog.wantsStandIn 9 = false by kernel_rfl)

/-- THE CARD -/
theorem card : Rows.FnUnescapeTwiceCardSaid :=
  Claim7.holds_tied_plain_at .later [] _ _ _ _ said (fun _ h => by cases h) (by kernel_rfl) (fun _ h => by cases h) fnUnescapeTwice_row_tie rfl ⟨rfl, rfl⟩ (by kernel_rfl) rfl plain (by kernel_rfl)
end Go.Proofs.YtjfgadnjdcopcaaDoor.fnUnescapeTwice
