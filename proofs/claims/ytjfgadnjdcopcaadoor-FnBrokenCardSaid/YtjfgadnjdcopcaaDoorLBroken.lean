/-
  The law FnBroken: wherever a % stands that no two hexadecimal digits follow, the text is not good; without it, it is: true for every two strings (each of at most 2^47 - 4096 bytes, as each row of the form says).
-/
import Derived.Test.YtjfgadnjdcopcaaDoorCards
import Derived.Test.YtjfgadnjdcopcaaDoorTie
import Derived.Test.YtjfgadnjdcopcaaDoorImplU
import Derived.Test.YtjfgadnjdcopcaaDoorSpecE
import Derived.Test.YtjfgadnjdcopcaaDoorHexa
import Derived.ProofKit
import Derived.OpenShut
import Derived.Deep.DeepHandedRow
import Derived.SizedLaws
namespace Go.Proofs.YtjfgadnjdcopcaaDoor.fnBroken
open Go.ChangeShapes Go.WideShapes Go.ChangeAt Go.RowKit
open Go.ChangeMaps (open_string shut_string)

theorem own : ownKnob Tryd.prog.godebug = none := by kernel_rfl
theorem bl_join (a : List UInt8) (t : ByteArray) : bl (mk a ++ ⟨#[37]⟩ ++ t) = a ++ 37 :: bl t := by
  rw [bl_append, bl_append, bl_mk, show bl ⟨#[37]⟩ = [37] from rfl]; simp
theorem join_size (a t : ByteArray) (h1 : a.size ≤ 422212465065984) (h2 : t.size ≤ 140737488351232) : (a ++ (⟨#[37]⟩ : ByteArray) ++ t).size ≤ 4611686018427387904 := by
  have h3 : (⟨#[37]⟩ : ByteArray).size = 1 := rfl
  rw [ByteArray.size_append, ByteArray.size_append, h3]; omega
theorem hex_two (t : ByteArray) (h : 1 < t.size) : Pl.hexTwo (bl t) = (Pl.hexB t[0] && Pl.hexB t[1]) := by
  have := bl_drop t 0 (by omega)
  rw [List.drop_zero, bl_drop t (0 + 1) (by omega)] at this
  rw [this]; rfl
theorem hex_few (t : ByteArray) (h : ¬ 1 < t.size) : Pl.hexTwo (bl t) = false := by
  have hl := length_bl t
  match hb : bl t with
  | [] => rfl
  | [a] => rfl
  | a :: b :: r => rw [hb] at hl; simp at hl; omega

set_option maxHeartbeats 1000000 in
/-- THE WALK -/
theorem walk (s t : ByteArray) (w : World) (ht : TabAt w) (hs : s.size ≤ 140737488351232) (htz : t.size ≤ 140737488351232) :
    Calls Tryd.prog 3 #[.string s, .string t] w fun e w' => e = .returned (.bool true) ∧ Below w.heap.size w w' := by
  have l1 := Pl.pathE_le (bl s)
  have l2 := Pl.queryE_le (bl s)
  rw [length_bl] at l1 l2
  have Z1 := Lib.hid (size_mk (Pl.pathE (bl s)))
  have Z2 := Lib.hid (size_mk (Pl.queryE (bl s)))
  have z1 : (mk (Pl.pathE (bl s))).size ≤ 422212465065984 := by rw [Z1.out]; omega
  have z2 : (mk (Pl.queryE (bl s))).size ≤ 422212465065984 := by rw [Z2.out]; omega
  have z3 : (mk (Pl.pathE (bl s)) ++ (⟨#[37]⟩ : ByteArray)).size ≤ 422212465065985 := by rw [ByteArray.size_append]; show _ + 1 ≤ _; omega
  have z4 : (mk (Pl.queryE (bl s)) ++ (⟨#[37]⟩ : ByteArray)).size ≤ 422212465065985 := by rw [ByteArray.size_append]; show _ + 1 ≤ _; omega
  have IP := Lib.hid (Pl.path_inverse (bl s))
  have IQ := Lib.hid (Pl.query_inverse (bl s))
  have BP := Lib.hid (bl_join (Pl.pathE (bl s)) t)
  have BQ := Lib.hid (bl_join (Pl.queryE (bl s)) t)
  have SP := Lib.hid (join_size (mk (Pl.pathE (bl s))) t (by omega) (by omega))
  have SQ := Lib.hid (join_size (mk (Pl.queryE (bl s))) t (by omega) (by omega))
  by_cases h1 : 1 < t.size
  · have hd : decide ((1 : Int) < (t.size : Int)) = true := decide_eq_true (by omega)
    have hx := hex_two t h1
    cases ka : Pl.hexB t[0] with
    | false =>
      rw [ka] at hx
      have KA := Lib.hid ka; clear ka
      have UP := Lib.hid (Pl.broken_p (bl s) (bl t) hx)
      have UQ := Lib.hid (Pl.broken_q (bl s) (bl t) hx)
      have VP := Lib.hid (show Pl.une 43 (bl (mk (Pl.pathE (bl s)) ++ ⟨#[37]⟩ ++ t)) = none by rw [BP.out]; exact UP.out)
      have VQ := Lib.hid (show Pl.une 32 (bl (mk (Pl.queryE (bl s)) ++ ⟨#[37]⟩ ++ t)) = none by rw [BQ.out]; exact UQ.out)
      clear hx UP UQ
      have ht0 := ht
      have hB0 := Below.refl w.heap.size w
      go_enter Tryd.func3, Tryd.ntmps3
      go_wp2_with fail
      refine (hexa_any _ w).mono ?_
      rintro e wx ⟨rfl, rfl⟩
      rw [KA.out]
      go_wp2_with fail
      refine (spec_path s w (by omega)).mono ?_
      rintro e w1 ⟨rfl, hb1⟩
      have hB1 := hB0.trans (hb1.mono hB0.size)
      have ht1 := ht0.below hb1 (tab_lt ht0)
      go_wp2_with fail
      refine (impl_unpath_no _ w1 ht1 SP.out VP.out).mono ?_
      rintro e w2 ⟨rfl, hb2⟩
      have hB2 := hB1.trans (hb2.mono hB1.size)
      have ht2 := ht1.below hb2 (tab_lt ht1)
      go_wp2_with fail
      refine (spec_query s w2 (by omega)).mono ?_
      rintro e w3 ⟨rfl, hb3⟩
      have hB3 := hB2.trans (hb3.mono hB2.size)
      have ht3 := ht2.below hb3 (tab_lt ht2)
      go_wp2_with fail
      refine (impl_unquery_no _ w3 ht3 SQ.out VQ.out).mono ?_
      rintro e w4 ⟨rfl, hb4⟩
      have hB4 := hB3.trans (hb4.mono hB3.size)
      have ht4 := ht3.below hb4 (tab_lt ht3)
      go_wp2_with fail
      refine (spec_path s w4 (by omega)).mono ?_
      rintro e w5 ⟨rfl, hb5⟩
      have hB5 := hB4.trans (hb5.mono hB4.size)
      have ht5 := ht4.below hb5 (tab_lt ht4)
      go_wp2_with fail
      refine (impl_unpath_ok (mk (Pl.pathE (bl s))) (bl s) w5 ht5 (by rw [Z1.out]; omega) (by rw [bl_mk]; exact IP.out) (by rw [length_bl]; omega)).mono ?_
      rintro e w6 ⟨rfl, hb6⟩
      have hB6 := hB5.trans (hb6.mono hB5.size)
      have ht6 := ht5.below hb6 (tab_lt ht5)
      rw [mk_bl]
      go_wp2_with fail
      refine (spec_query s w6 (by omega)).mono ?_
      rintro e w7 ⟨rfl, hb7⟩
      have hB7 := hB6.trans (hb7.mono hB6.size)
      have ht7 := ht6.below hb7 (tab_lt ht6)
      go_wp2_with fail
      refine (impl_unquery_ok (mk (Pl.queryE (bl s))) (bl s) w7 ht7 (by rw [Z2.out]; omega) (by rw [bl_mk]; exact IQ.out) (by rw [length_bl]; omega)).mono ?_
      rintro e w8 ⟨rfl, hb8⟩
      have hB8 := hB7.trans (hb8.mono hB7.size)
      have ht8 := ht7.below hb8 (tab_lt ht7)
      rw [mk_bl]
      go_wp2
      go_ret
      exact ⟨ret_bool (by simp), hB8⟩
    | true =>
      cases kb : Pl.hexB t[1] with
      | false =>
        rw [ka, kb] at hx
        have KA := Lib.hid ka; clear ka
        have KB := Lib.hid kb; clear kb
        have UP := Lib.hid (Pl.broken_p (bl s) (bl t) hx)
        have UQ := Lib.hid (Pl.broken_q (bl s) (bl t) hx)
        have VP := Lib.hid (show Pl.une 43 (bl (mk (Pl.pathE (bl s)) ++ ⟨#[37]⟩ ++ t)) = none by rw [BP.out]; exact UP.out)
        have VQ := Lib.hid (show Pl.une 32 (bl (mk (Pl.queryE (bl s)) ++ ⟨#[37]⟩ ++ t)) = none by rw [BQ.out]; exact UQ.out)
        clear hx UP UQ
        have ht0 := ht
        have hB0 := Below.refl w.heap.size w
        go_enter Tryd.func3, Tryd.ntmps3
        go_wp2_with fail
        refine (hexa_any _ w).mono ?_
        rintro e wx ⟨rfl, rfl⟩
        rw [KA.out]
        go_wp2_with fail
        refine (hexa_any _ w).mono ?_
        rintro e wx ⟨rfl, rfl⟩
        rw [KB.out]
        go_wp2_with fail
        refine (spec_path s w (by omega)).mono ?_
        rintro e w1 ⟨rfl, hb1⟩
        have hB1 := hB0.trans (hb1.mono hB0.size)
        have ht1 := ht0.below hb1 (tab_lt ht0)
        go_wp2_with fail
        refine (impl_unpath_no _ w1 ht1 SP.out VP.out).mono ?_
        rintro e w2 ⟨rfl, hb2⟩
        have hB2 := hB1.trans (hb2.mono hB1.size)
        have ht2 := ht1.below hb2 (tab_lt ht1)
        go_wp2_with fail
        refine (spec_query s w2 (by omega)).mono ?_
        rintro e w3 ⟨rfl, hb3⟩
        have hB3 := hB2.trans (hb3.mono hB2.size)
        have ht3 := ht2.below hb3 (tab_lt ht2)
        go_wp2_with fail
        refine (impl_unquery_no _ w3 ht3 SQ.out VQ.out).mono ?_
        rintro e w4 ⟨rfl, hb4⟩
        have hB4 := hB3.trans (hb4.mono hB3.size)
        have ht4 := ht3.below hb4 (tab_lt ht3)
        go_wp2_with fail
        refine (spec_path s w4 (by omega)).mono ?_
        rintro e w5 ⟨rfl, hb5⟩
        have hB5 := hB4.trans (hb5.mono hB4.size)
        have ht5 := ht4.below hb5 (tab_lt ht4)
        go_wp2_with fail
        refine (impl_unpath_ok (mk (Pl.pathE (bl s))) (bl s) w5 ht5 (by rw [Z1.out]; omega) (by rw [bl_mk]; exact IP.out) (by rw [length_bl]; omega)).mono ?_
        rintro e w6 ⟨rfl, hb6⟩
        have hB6 := hB5.trans (hb6.mono hB5.size)
        have ht6 := ht5.below hb6 (tab_lt ht5)
        rw [mk_bl]
        go_wp2_with fail
        refine (spec_query s w6 (by omega)).mono ?_
        rintro e w7 ⟨rfl, hb7⟩
        have hB7 := hB6.trans (hb7.mono hB6.size)
        have ht7 := ht6.below hb7 (tab_lt ht6)
        go_wp2_with fail
        refine (impl_unquery_ok (mk (Pl.queryE (bl s))) (bl s) w7 ht7 (by rw [Z2.out]; omega) (by rw [bl_mk]; exact IQ.out) (by rw [length_bl]; omega)).mono ?_
        rintro e w8 ⟨rfl, hb8⟩
        have hB8 := hB7.trans (hb8.mono hB7.size)
        have ht8 := ht7.below hb8 (tab_lt ht7)
        rw [mk_bl]
        go_wp2
        go_ret
        exact ⟨ret_bool (by simp), hB8⟩
      | true =>
        have KA := Lib.hid ka; clear ka
        have KB := Lib.hid kb; clear kb
        clear hx
        have ht0 := ht
        have hB0 := Below.refl w.heap.size w
        go_enter Tryd.func3, Tryd.ntmps3
        go_wp2_with fail
        refine (hexa_any _ w).mono ?_
        rintro e wx ⟨rfl, rfl⟩
        rw [KA.out]
        go_wp2_with fail
        refine (hexa_any _ w).mono ?_
        rintro e wx ⟨rfl, rfl⟩
        rw [KB.out]
        go_wp2_with fail
        go_ret
        exact ⟨rfl, Below.refl _ _⟩
  · have hd : decide ((1 : Int) < (t.size : Int)) = false := decide_eq_false (by omega)
    have hx := hex_few t h1
    have UP := Lib.hid (Pl.broken_p (bl s) (bl t) hx)
    have UQ := Lib.hid (Pl.broken_q (bl s) (bl t) hx)
    have VP := Lib.hid (show Pl.une 43 (bl (mk (Pl.pathE (bl s)) ++ ⟨#[37]⟩ ++ t)) = none by rw [BP.out]; exact UP.out)
    have VQ := Lib.hid (show Pl.une 32 (bl (mk (Pl.queryE (bl s)) ++ ⟨#[37]⟩ ++ t)) = none by rw [BQ.out]; exact UQ.out)
    clear hx UP UQ
    have ht0 := ht
    have hB0 := Below.refl w.heap.size w
    go_enter Tryd.func3, Tryd.ntmps3
    go_wp2_with fail
    refine (spec_path s w (by omega)).mono ?_
    rintro e w1 ⟨rfl, hb1⟩
    have hB1 := hB0.trans (hb1.mono hB0.size)
    have ht1 := ht0.below hb1 (tab_lt ht0)
    go_wp2_with fail
    refine (impl_unpath_no _ w1 ht1 SP.out VP.out).mono ?_
    rintro e w2 ⟨rfl, hb2⟩
    have hB2 := hB1.trans (hb2.mono hB1.size)
    have ht2 := ht1.below hb2 (tab_lt ht1)
    go_wp2_with fail
    refine (spec_query s w2 (by omega)).mono ?_
    rintro e w3 ⟨rfl, hb3⟩
    have hB3 := hB2.trans (hb3.mono hB2.size)
    have ht3 := ht2.below hb3 (tab_lt ht2)
    go_wp2_with fail
    refine (impl_unquery_no _ w3 ht3 SQ.out VQ.out).mono ?_
    rintro e w4 ⟨rfl, hb4⟩
    have hB4 := hB3.trans (hb4.mono hB3.size)
    have ht4 := ht3.below hb4 (tab_lt ht3)
    go_wp2_with fail
    refine (spec_path s w4 (by omega)).mono ?_
    rintro e w5 ⟨rfl, hb5⟩
    have hB5 := hB4.trans (hb5.mono hB4.size)
    have ht5 := ht4.below hb5 (tab_lt ht4)
    go_wp2_with fail
    refine (impl_unpath_ok (mk (Pl.pathE (bl s))) (bl s) w5 ht5 (by rw [Z1.out]; omega) (by rw [bl_mk]; exact IP.out) (by rw [length_bl]; omega)).mono ?_
    rintro e w6 ⟨rfl, hb6⟩
    have hB6 := hB5.trans (hb6.mono hB5.size)
    have ht6 := ht5.below hb6 (tab_lt ht5)
    rw [mk_bl]
    go_wp2_with fail
    refine (spec_query s w6 (by omega)).mono ?_
    rintro e w7 ⟨rfl, hb7⟩
    have hB7 := hB6.trans (hb7.mono hB6.size)
    have ht7 := ht6.below hb7 (tab_lt ht6)
    go_wp2_with fail
    refine (impl_unquery_ok (mk (Pl.queryE (bl s))) (bl s) w7 ht7 (by rw [Z2.out]; omega) (by rw [bl_mk]; exact IQ.out) (by rw [length_bl]; omega)).mono ?_
    rintro e w8 ⟨rfl, hb8⟩
    have hB8 := hB7.trans (hb8.mono hB7.size)
    have ht8 := ht7.below hb8 (tab_lt ht7)
    rw [mk_bl]
    go_wp2
    go_ret
    exact ⟨ret_bool (by simp), hB8⟩

/-- what the form's reach gives -/
theorem short {H : Type} (ts : List TypeId) {s : ByteArray} {ds : List (DataW H)} {j : Nat} {t : TypeId} (hz : (DataW.weightsEach Tryd.prog ts ds).all (· ≤ reachBytes) = true) (ht : ts[j]? = some t) (hd : ds[j]? = some (.lit (.string s.data.toList))) : s.size ≤ 140737488351232 := by
  have h := sized_string hz ht hd
  have e : s.data.toList.length = s.size := Array.length_toList
  rw [e] at h
  exact h

theorem contract (H : Type) (enc : TypeId × Value → H) (W : World) (base : Nat) (args : Array Value) (ds gs : List (DataW H)) (before : List MemPlace)
    (hval : ∀ (j : Nat) t v, Tryd.f3.params[j]? = some t → args[j]? = some v → Value.okWide Tryd.prog W .any base t v)
    (hW : DataW.Whole enc Tryd.prog Tryd.f3.params.toList Rows.fnBrokenSpec.vars false W args.toList ds gs before) (hz : (DataW.weightsEach Tryd.prog (Tryd.f3.params.toList ++ []) (ds ++ gs)).all (· ≤ reachBytes) = true) (hL : laidMetH Tryd.prog Rows.fnBrokenRow.laid W) :
    Calls Tryd.prog 3 args W fun e W' => ∃ v, e = .returned v ∧ Rows.fnBrokenSpec.post enc Tryd.prog Tryd.f3 false true false false W args v W' := by
  have hW' := hW
  obtain ⟨p, q, hA0, hV, rfl, hfz, hnd⟩ := hW
  have hA : DataW.TrodAll enc Tryd.prog W 0 (fun _ => true) true Tryd.f3.params.toList args.toList ds p := hA0
  rw [Tryd.params3] at hA hval hz
  obtain ⟨v0, vs0, d0, ds0, p0, q0, hargs, rfl, rfl, h0, r0⟩ := trodAll_cons hA
  obtain ⟨v1, vs1, d1, ds1, p1, q1, rfl, rfl, rfl, h1, r1⟩ := trodAll_cons r0
  obtain ⟨rfl, rfl, rfl⟩ := trodAll_nil r1
  obtain rfl : args = #[v0, v1] := by cases args; simp_all
  obtain ⟨rfl, rfl⟩ := trodVars_none hV
  obtain ⟨s, rfl, rfl, rfl, hmax⟩ := open_string Tryd.underlying9 (hval 0 9 v0 rfl rfl) h0
  obtain ⟨t, rfl, rfl, rfl, hmax1⟩ := open_string Tryd.underlying9 (hval 1 9 v1 rfl rfl) h1
  clear hA0
  simp only [List.append_nil] at hW'
  refine (walk s t W (tabAt_of hL) (short _ (j := 0) hz rfl rfl) (short _ (j := 1) hz rfl rfl)).mono fun e W' ⟨he, hb⟩ => ?_
  subst he
  exact ⟨_, rfl, _, _, _, [], [], [], hW', trodAll_cons_mk (shut_bool Tryd.underlying4 _) trodAll_mk0, trodAll_cons_mk (shut_string Tryd.underlying9 hmax) (trodAll_cons_mk (shut_string Tryd.underlying9 hmax1) trodAll_mk0), rfl, hb.frame _, fun h => by cases h⟩

/-- A WORLD FOR THE WITNESS: the settled one, the table holding what its initialiser lays. -/
noncomputable def laidWorld (os : Os) : World :=
  { World.holding Tryd.prog os ⟨#[], #[], []⟩ with heap := (World.holding Tryd.prog os ⟨#[], #[], []⟩).heap.modify 0 fun
      | .cells _ t frozen => .cells (tabZ.map (Value.int .u8)).toArray t frozen
      | o => o }
theorem laid_met (os : Os) : laidMet Tryd.prog Rows.fnBrokenRow.laid ((laidWorld os).forCall (fun _ _ => 0) ⟨#[], #[.string .empty, .string .empty], []⟩).memory :=
  laidMet_of_run' 8 (by kernel_rfl) (by kernel_rfl)
theorem reads (os : Os) {H : Type} (enc : TypeId × Value → H) : ∃ places, DataW.whole enc Tryd.prog ((laidWorld os).forCall (fun _ _ => 0) ⟨#[], #[.string .empty, .string .empty], []⟩).memory Tryd.f3.params.toList Rows.fnBrokenSpec.vars false #[Value.string .empty, Value.string .empty].toList 8 = some ([.lit (.string []), .lit (.string [])], [], places) :=
  ⟨[], by kernel_rfl⟩

set_option maxRecDepth 100000 in
theorem lifted (os : Os) (started : os.Started) (H : Type) (enc : TypeId × Value → H) (F : Stop.Interp) :
    ReturnsInHanded {} Tryd.checked os 3 .any ((OpenSpec.ofChange Rows.fnBrokenSpec).preRow enc Tryd.prog Tryd.f3 Rows.fnBrokenRow.domain false Rows.fnBrokenRow.laid) (((OpenSpec.ofChange Rows.fnBrokenSpec).at F).post enc Tryd.prog Tryd.f3 false true false false) := by
  obtain ⟨places, hx⟩ := reads os enc
  refine returnsInHanded_of_row (C := Tryd.checked) (s := OpenSpec.ofChange Rows.fnBrokenSpec) own started (by kernel_rfl) Tryd.func3
    (witness_row_at (enc := enc) (C := Tryd.checked) false (laidWorld os) #[.string .empty, .string .empty] rfl (by kernel_rfl) (by kernel_rfl) (by kernel_rfl)
      (OpenSpec.preRow_of_cond 8 hx (by kernel_rfl) (fun k hk => by cases hk) (by kernel_rfl) (laid_met os))) ?_
  intro W base args ds gs before hval hW _ hcond hz hL _ _
  exact contract H enc W base args ds gs before hval hW hz hL

theorem said : Rows.FnBrokenSaid :=
  OpenClaim.holds_of_cond 3 Tryd.f3 rfl rfl rfl rfl rfl rfl rfl ⟨rfl, rfl, rfl, rfl, rfl⟩ rfl rfl rfl rfl rfl (by kernel_rfl) Tryd.func3 (by kernel_rfl)
    (of_decide_eq_true (by kernel_rfl)) (by unfold Func.isWrapper; first | (rw [if_pos (by decide +kernel)]; kernel_rfl) | (rw [if_neg (by decide +kernel)]; exact ⟨rfl, rfl⟩))
    (fun os started H enc _ F => by rw [OpenClaim.pre_eq_preRow]; exact lifted os started H enc F)

theorem plain (f : FuncId) (fn : Func) (hf : Tryd.pinned.checked.prog.funcNamed "loop.example/lib-g03409/laws.FnBroken" = some f) (hfn : Tryd.pinned.checked.prog.funcs[f]? = some fn) :
    false = Tryd.pinned.checked.prog.looks [] ∧ ∀ (j : Nat) t, fn.params[j]? = some t → Tryd.pinned.checked.prog.wantsStandIn t = false := by
  obtain rfl : f = 3 := Option.some.inj ((show Tryd.prog.funcNamed "loop.example/lib-g03409/laws.FnBroken" = some 3 by kernel_rfl).symm.trans hf) |>.symm
  obtain rfl : fn = Tryd.f3 := (Option.some.inj (Tryd.func3.symm.trans hfn)).symm
  refine ⟨by kernel_rfl, fun j t ht => ?_⟩
  rw [Tryd.params3] at ht
  obtain rfl : t = 9 := by simpa using Array.mem_of_getElem? ht
  exact (show Tryd.prog.wantsStandIn 9 = false by kernel_rfl)

/-- THE CARD -/
theorem card : Rows.FnBrokenCardSaid :=
  Claim7.holds_tied_plain_at .later [] _ _ _ _ said (fun _ h => by cases h) (by kernel_rfl) (fun _ h => by cases h) fnBroken_row_tie rfl ⟨rfl, rfl⟩ (by kernel_rfl) rfl plain (by kernel_rfl)
end Go.Proofs.YtjfgadnjdcopcaaDoor.fnBroken
