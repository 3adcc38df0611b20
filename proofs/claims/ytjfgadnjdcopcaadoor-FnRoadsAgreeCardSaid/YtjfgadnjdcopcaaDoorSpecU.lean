/-
  The contract of spec.PathUnescape: the unescaped text and true, or false where an escape is broken; what was there stays. Condition: the string is no longer than 2^47 bytes.
-/
import Derived.Test.YtjfgadnjdcopcaaDoorValue
import Derived.Test.YtjfgadnjdcopcaaDoorUneP
import Derived.Deep.RegionLaw
import Derived.Laws.IdiomStrings
namespace Go.Proofs.YtjfgadnjdcopcaaDoor
open Go.RowKit
theorem infoB : (Tryd.prog.info? 5).map (fun i => (i.zero, i.size, i.bytes)) = some (some (.int .u8 0), 1, 1) := by kernel_rfl
/-- how the call ends -/
def SpecEnd (s : ByteArray) (e : Ending) : Prop :=
  match Pl.une 43 (bl s) with
  | some r => e = .returned (.tuple #[.string (mk r), .bool true])
  | none => e = .returned (.tuple #[.string ⟨#[]⟩, .bool false])
theorem SpecEnd.bad {s : ByteArray} (h : Pl.une 43 (bl s) = none) : SpecEnd s (.returned (.tuple #[.string ⟨#[]⟩, .bool false])) := by
  unfold SpecEnd; rw [h]
theorem SpecEnd.good {s r : ByteArray} {l : List UInt8} (h : Pl.une 43 (bl s) = some l) (hr : r = mk l) : SpecEnd s (.returned (.tuple #[.string r, .bool true])) := by
  unfold SpecEnd; rw [h, hr]
/-- k bytes read, bs written -/
def AllRel (s : ByteArray) (k : Nat) (bs : List UInt8) : Prop := Pl.une 43 (bl s) = (Pl.une 43 ((bl s).drop k)).map (bs ++ ·)
theorem all_start (s : ByteArray) : AllRel s 0 [] := by
  unfold AllRel; rw [List.drop_zero]; cases Pl.une 43 (bl s) <;> simp
theorem all_esc (s : ByteArray) (k : Nat) (bs : List UInt8) (h : AllRel s k bs) (h2 : k + 2 < s.size) (hc : s[k] = 37) (ha : Pl.hexB s[k + 1] = true) (hb : Pl.hexB s[k + 2] = true) :
    AllRel s (k + 3) (bs ++ [UInt8.ofNat (Pl.hv s[k + 1] * 16 + Pl.hv s[k + 2])]) := by
  unfold AllRel at *
  rw [h, drop3 s k h2, hc, Pl.une_hex _ _ _ _ (by rw [ha, hb]; rfl)]
  cases Pl.une 43 ((bl s).drop (k + 3)) <;> simp
theorem all_one (s : ByteArray) (k : Nat) (bs : List UInt8) (h : AllRel s k bs) (h1 : k < s.size) (hc : s[k] ≠ 37) : AllRel s (k + 1) (bs ++ [s[k]]) := by
  unfold AllRel at *
  rw [h, bl_drop s k h1, Pl.une_other _ _ _ hc]
  have e : (if s[k] = 43 then 43 else s[k]) = s[k] := by
    by_cases h : s[k] = 43
    · rw [h]; rfl
    · rw [if_neg h]
  rw [e]
  cases Pl.une 43 ((bl s).drop (k + 1)) <;> simp
theorem all_bad (s : ByteArray) (k : Nat) (bs : List UInt8) (h : AllRel s k bs) (h2 : k + 2 < s.size) (hc : s[k] = 37) (ha : (Pl.hexB s[k + 1] && Pl.hexB s[k + 2]) = false) : Pl.une 43 (bl s) = none := by
  unfold AllRel at h
  rw [h, drop3 s k h2, hc, Pl.une_bad _ _ _ _ ha]; rfl
theorem all_short (s : ByteArray) (k : Nat) (bs : List UInt8) (h : AllRel s k bs) (h1 : k < s.size) (h2 : s.size ≤ k + 2) (hc : s[k] = 37) : Pl.une 43 (bl s) = none := by
  unfold AllRel at h
  rw [h]
  rcases drop_short s k h1 h2 with e | ⟨a, e⟩
  · rw [e, hc, Pl.une_short0]; rfl
  · rw [e, hc, Pl.une_short1]; rfl
theorem all_end (s : ByteArray) (k : Nat) (bs : List UInt8) (h : AllRel s k bs) (h1 : s.size ≤ k) : Pl.une 43 (bl s) = some bs := by
  unfold AllRel at h
  rw [h, bl_drop_all s k h1, Pl.une_nil]; simp
theorem v16_yes {c : UInt8} (h : Pl.hexB c = false) : ((val c : Int) == 16) = true := by unfold val; rw [h]; rfl
theorem val_hex {c : UInt8} (h : Pl.hexB c = true) : val c = Pl.hv c := by unfold val; rw [h]; rfl
theorem v16_no {c : UInt8} (h : Pl.hexB c = true) : ((val c : Int) == 16) = false := by
  rw [val_hex h]; exact beq_eq_false_iff_ne.2 (by have := hv_lt c h; omega)

theorem conv_own (wr : World) (B : Nat) (v : Value) (bs : List UInt8) (h : wr.ownsRow B 5 1 v bs.length (Lib.byteCells bs)) :
    (convert 38 9 v).run Tryd.prog wr = .ok (.string (mk bs)) wr := by
  rcases h.2 with ⟨hv, h0⟩ | ⟨g, cap, cur, hv, _, hg, hn, _, hcs, htk⟩
  · obtain rfl : bs = [] := List.length_eq_zero_iff.1 h0
    subst hv
    rw [run_convert_bytes_string wr 38 9 5 none 0 0 Tryd.underlying38 Tryd.underlying5 Tryd.underlying9]
    rfl
  · subst hv
    exact run_convert_bytes_back wr 38 9 5 ⟨g, 0, none⟩ cap bs Tryd.underlying38 Tryd.underlying5 Tryd.underlying9 (fun j hj => by
      have e : (⟨g, 0, none⟩ : Addr).add j = ⟨g, j, none⟩ := by unfold Addr.add; split <;> simp_all
      rw [e]
      have h2 : cur.toList[j]? = some (.int .u8 (bs[j].toNat : Int)) := by
        have h3 : (cur.toList.take (bs.length * 1))[j]? = some (.int .u8 (bs[j].toNat : Int)) := by rw [htk]; simp [Lib.byteCells, hj]
        rw [List.getElem?_take_of_lt (by omega)] at h3
        exact h3
      simpa [World.cell?, hg] using h2)
/-- one byte appended to an owned row, as one step of a region that draws its order; the byte's block has just been laid -/
theorem step_one {P : Program} {base : Nat} {e : TypeId} {i : TypeInfo} {wr : World} {v : Value} {bs : List UInt8} (hi : P.info? e = some i) (hz : i.zero = some (.int .u8 0)) (hsize : i.size = 1) (hby : i.bytes = 1)
    (hown : wr.ownsRow base e 1 v bs.length (Lib.byteCells bs)) (z : Int) (hlen : bs.length + 1 ≤ 140737488355328) (hbase : base ≤ wr.heap.size)
    {ops : Array Oper} {o : Oper} {a : Act} {K : Act → World → Prop} {Q : Exit → Act → World → Prop} {E : Prop} (hgd : o.guard = none) (s x : Operand) (t : TypeId)
    (ho : o.op = .call { callee := .builtin .append, args := #[s, x], argTypes := #[t, t] }) (ht : P.underlying t = some (.slice e)) (hs : a.eval s = v) (hx : a.eval x = .slice (some ⟨wr.heap.size, 0, none⟩) 1 1)
    (h : ∀ v' w', w'.ownsRow base e 1 v' (bs.length + 1) (Lib.byteCells bs ++ [.int .u8 z]) → (wr.alloc (.cells #[.int .u8 z] e)).grownBy w' v.ownBlock → K (a.put o.dst v') w') :
    if Region.wanted o (yielded ops a.tmps) = true then Oper.wp P o a (wr.alloc (.cells #[.int .u8 z] e)).drew K Q else E := by
  have hw : Region.wanted o (yielded ops a.tmps) = true := by simp [Region.wanted, hgd]
  rw [if_pos hw]
  refine wp_append_own _ s x t ho base e i (.int .u8 0) 1 1 ht hi hz hsize hby rfl (by decide) v bs.length (Lib.byteCells bs) hs (hown.alloc _).drew ⟨wr.heap.size, 0, none⟩ 1 1 [.int .u8 z] hx rfl (fun j u hj => cell_one_new _ _ _ j u hj) (fun u hu => by simp at hu; subst hu; rfl) (by unfold maxLen; omega) (by omega) (by show base ≤ (wr.alloc _).heap.size; simp; omega) (fun v' w' h2 h3 _ => h v' w' h2 ⟨h3.os, h3.tape, h3.output, h3.size, h3.block⟩)
theorem u8_in (n : Int) (h0 : 0 ≤ n) (h1 : n ≤ 255) : IntKind.u8.wrap n = n := by
  simp [IntKind.wrap, IntKind.signed, IntKind.bits]; omega
theorem own_start (w : World) : (w.alloc (.cells #[] 5)).ownsRow w.heap.size 5 1 (.slice (some ⟨w.heap.size, 0, none⟩) 0 0) ([] : List UInt8).length (Lib.byteCells []) :=
  ⟨rfl, Or.inr ⟨w.heap.size, 0, #[], rfl, Nat.le_refl _, heap_alloc_new w _, Nat.le_refl _, Nat.zero_le _, rfl, rfl⟩⟩
theorem rel_own {w wr w2 : World} {v v' : Value} {bs : List UInt8} {c : UInt8} {o : Obj} (h : wr.ownsRow w.heap.size 5 1 v bs.length (Lib.byteCells bs)) (hb : Below w.heap.size w wr)
    (h' : w2.ownsRow w.heap.size 5 1 v' (bs.length + 1) (Lib.byteCells bs ++ [.int .u8 (c.toNat : Int)])) (hg : (wr.alloc o).grownBy w2 v.ownBlock) :
    w2.ownsRow w.heap.size 5 1 v' (bs ++ [c]).length (Lib.byteCells (bs ++ [c])) ∧ Below w.heap.size w w2 := by
  refine ⟨by rw [byteCells_snoc, List.length_append]; exact h', ?_⟩
  exact (hb.alloc hb.size o).grown hg (by have := hb.size; simp; omega) (fun k hk => (h.lt k hk).1)

set_option maxRecDepth 100000 in
set_option maxHeartbeats 4000000 in
theorem spec_unpath (s : ByteArray) (w : World) (hs : s.size ≤ 140737488355328) :
    Calls Tryd.prog 17 #[.string s] w fun e w' => SpecEnd s e ∧ Below w.heap.size w w' := by
  obtain ⟨i0, hi, hz0, hz1, hz2⟩ := info_parts infoB
  go_enter Tryd.func17, Tryd.ntmps17
  go_wp2_with fail
  go_loopw [4, 5] (fun v i wr => ∃ (k : Nat) (bs : List UInt8), k ≤ s.size ∧ bs.length ≤ k ∧ i = .int .i64 k ∧ wr.ownsRow w.heap.size 5 1 v bs.length (Lib.byteCells bs) ∧ Below w.heap.size w wr ∧ AllRel s k bs) (fun _ i _ => s.size - (intOf i).toNat)
  case atStart => exact ⟨0, [], Nat.zero_le _, Nat.le_refl _, rfl, own_start w, (Below.refl _ _).alloc (Nat.le_refl _) _, all_start s⟩
  case round =>
    obtain ⟨k, bs, hk, hbk, rfl, hown, hbel, hrel⟩ := hrel
    have HO := Lib.hid hown; clear hown
    have HR := Lib.hid hrel; clear hrel
    have HBL := Lib.hid hbel
    have hsz := hbel.size
    clear hbel
    by_cases hlt : k < s.size
    · by_cases h37 : s[k] = 37
      · have hc : ((s[k].toNat : Int) != 37) = false := by rw [bne, b37 h37]; rfl
        by_cases h2 : k + 2 < s.size
        · have hd : decide ((s.size : Int) ≤ (k : Int) + 2) = false := by simp; omega
          cases ha : Pl.hexB s[k + 1] with
          | false =>
            have HF := Lib.hid (all_bad s k bs HR.out h2 h37 (by rw [ha]; rfl))
            have hva := v16_yes ha
            clear h37
            go_wp2_with (go_at_call 25; refine (value_any _ _).mono ?_; rintro e w' ⟨rfl, rfl⟩)
            all_goals go_ret2
            all_goals exact ⟨SpecEnd.bad HF.out, HBL.out⟩
          | true =>
            have hva := v16_no ha
            cases hb : Pl.hexB s[k + 2] with
            | false =>
              have HF := Lib.hid (all_bad s k bs HR.out h2 h37 (by rw [ha, hb]; rfl))
              have hvb := v16_yes hb
              clear h37
              go_wp2_with (go_at_call 25; refine (value_any _ _).mono ?_; rintro e w' ⟨rfl, rfl⟩)
              all_goals go_ret2
              all_goals exact ⟨SpecEnd.bad HF.out, HBL.out⟩
            | true =>
              have HF := Lib.hid (all_esc s k bs HR.out h2 h37 ha hb)
              have hvb := v16_no hb
              clear h37
              have HV := Lib.hid (show ((UInt8.ofNat (Pl.hv s[k + 1] * 16 + Pl.hv s[k + 2])).toNat : Int) = (val s[k + 1] : Int) * 16 + (val s[k + 2] : Int) by
                rw [byte_of _ (by have := hv_lt _ ha; have := hv_lt _ hb; omega), val_hex ha, val_hex hb]; omega)
              have hA16 : val s[k + 1] < 16 := by rw [val_hex ha]; exact hv_lt _ ha
              have hB16 : val s[k + 2] < 16 := by rw [val_hex hb]; exact hv_lt _ hb
              clear ha hb
              go_wp2_with (go_at_call 25; refine (value_any _ _).mono ?_; rintro e w' ⟨rfl, rfl⟩)
              have hl1 : bs.length + 1 ≤ 140737488355328 := by omega
              have q1 : IntKind.i64.wrap ((k : Int) + 1) = (k : Int) + 1 := IntWalk.i64_in _ (by omega)
              have q2 : IntKind.i64.wrap ((k : Int) + 2) = (k : Int) + 2 := IntWalk.i64_in _ (by omega)
              have q3 : ((k : Int) + 1).toNat = k + 1 := by omega
              have q4 : ((k : Int) + 2).toNat = k + 2 := by omega
              have q5 : (0 : Int) ≤ (k : Int) + 1 := by omega
              have q6 : (0 : Int) ≤ (k : Int) + 2 := by omega
              have q8 : (k : Int) + 1 < (s.size : Int) := by omega
              have q9 : (k : Int) + 2 < (s.size : Int) := by omega
              have qa : IntKind.u8.wrap ((val s[k + 1] : Int) * 16) = (val s[k + 1] : Int) * 16 := u8_in _ (by omega) (by omega)
              have qb : IntKind.u8.wrap ((val s[k + 1] : Int) * 16 + (val s[k + 2] : Int)) = (val s[k + 1] : Int) * 16 + (val s[k + 2] : Int) := u8_in _ (by omega) (by omega)
              go_region_law (first | (go_simp; go_at_call 25; refine (value_any _ _).mono ?_; rintro e w' ⟨rfl, rfl⟩) | (refine step_one (P := Tryd.prog) hi hz0 hz1 hz2 HO.out ((val s[k + 1] : Int) * 16 + (val s[k + 2] : Int)) hl1 hsz rfl (.tmp 44) (.tmp 57) 38 rfl Tryd.underlying38 (by simp [Act.eval]) (by simp [Act.eval]) ?_; intro v' w2 hown' hgrow))
              all_goals
                (try clear qa); (try clear qb)
                (try clear q1); (try clear q2); (try clear q3); (try clear q4); (try clear q5); (try clear q6)
                rw [← HV.out] at hown'
                have R := rel_own HO.out HBL.out hown' hgrow
                have HRR := Lib.hid R; clear R hown' hgrow
                go_wp2
                go_roundw
                case rel => exact ⟨k + 3, _, by omega, by simp; omega, by go_num, HRR.out.1, HRR.out.2, HF.out⟩
                case measure => simp [intOf]; omega
        · have hd : decide ((s.size : Int) ≤ (k : Int) + 2) = true := by simp; omega
          have HF := Lib.hid (all_short s k bs HR.out hlt (by omega) h37)
          clear h37
          go_wp2_with (go_at_call 25; refine (value_any _ _).mono ?_; rintro e w' ⟨rfl, rfl⟩)
          all_goals go_ret2
          all_goals exact ⟨SpecEnd.bad HF.out, HBL.out⟩
      · have hc : ((s[k].toNat : Int) != 37) = true := by rw [bne, n37 h37]; rfl
        have HF := Lib.hid (all_one s k bs HR.out hlt h37)
        clear h37
        go_wp2_with (at_builtin; refine wpList_append_own _ rfl _ _ 38 rfl w.heap.size 5 i0 (.int .u8 0) 1 1 Tryd.underlying38 hi hz0 hz1 hz2 rfl (by decide) _ _ _ rfl (HO.out.alloc _) ⟨wr.heap.size, 0, none⟩ 1 1 [.int .u8 (s[k].toNat : Int)] rfl rfl ?c1 ?c2 ?c3 ?c4 ?c5 ?_)
        case c1 => exact cell_one_new _ _ _
        case c2 => intro u hu; simp at hu; subst hu; rfl
        case c3 => unfold maxLen; omega
        case c4 => omega
        case c5 => simp; omega
        intro v' w2 hown' hgrow _
        have R := rel_own HO.out HBL.out hown' hgrow
        have HRR := Lib.hid R; clear R hown' hgrow
        go_wp2
        go_roundw
        case rel => exact ⟨k + 1, _, by omega, by simp; omega, by go_num, HRR.out.1, HRR.out.2, HF.out⟩
        case measure => simp [intOf]; omega
    · have HE := Lib.hid (all_end s k bs HR.out (by omega))
      have hback := conv_own _ _ _ _ HO.out
      go_wp2
      go_ret2
      exact ⟨SpecEnd.good HE.out rfl, HBL.out⟩
end Go.Proofs.YtjfgadnjdcopcaaDoor
