/-
  The contract of net/url.unescape in the modes of a path segment (q = false) and of a query (q = true): the unescaped text and no error, or an error where an escape is broken; what was there stays. Conditions: the table lies in its variable; the string is no longer than 2^62 bytes, the result no longer than 2^47.
-/
import Derived.Test.YtjfgadnjdcopcaaDoorUneP
import Derived.Test.YtjfgadnjdcopcaaDoorShelf
import Derived.Deep.DeepCutAuto
import Derived.StillTailTactics
namespace Go.Proofs.YtjfgadnjdcopcaaDoor
open Go.RowKit
/-- how the call ends -/
def UneEnd (q : Bool) (s : ByteArray) (e : Ending) : Prop :=
  match Pl.une (Pl.pl q) (bl s) with
  | some r => e = .returned (.tuple #[.string (mk r), .nilIface])
  | none => ∃ x, e = .returned (.tuple #[.string ⟨#[]⟩, .iface 44 (.string x)])
theorem UneEnd.bad {q : Bool} {s : ByteArray} (h : Pl.une (Pl.pl q) (bl s) = none) (x : ByteArray) : UneEnd q s (.returned (.tuple #[.string ⟨#[]⟩, .iface 44 (.string x)])) := by
  unfold UneEnd; rw [h]; exact ⟨x, rfl⟩
theorem UneEnd.good {q : Bool} {s r : ByteArray} {l : List UInt8} (h : Pl.une (Pl.pl q) (bl s) = some l) (hr : r = mk l) : UneEnd q s (.returned (.tuple #[.string r, .nilIface])) := by
  unfold UneEnd; rw [h, hr]
theorem bGrowZ (B b n : Nat) (z : Int) (w : World) (hz : z = n) (hB : B ≤ b) (hbk : w.heap[b]? = some (.cells #[.pointer none, .slice none 0 0] 49 (0, 0))) (hBw : B ≤ w.heap.size) (hn : n ≤ 281474976710656) :
    Calls Tryd.prog 33 #[.pointer (some ⟨b, 0, none⟩), .int .i64 z] w fun e w' => e = .returned (.tuple #[]) ∧ (Lib.BuilderAt 49 5 B b (.pointer (some ⟨b, 0, none⟩)) [] w' ∧ Below B w w') := by
  subst hz; exact bGrow B b n w hB hbk hBw hn

theorem bByteC (B b : Nat) (bs : List UInt8) (c : Int) (d : UInt8) (w : World) (hd : c = (d.toNat : Int)) (h : Lib.IsBuilder 49 5 B b (Lib.byteCells bs) w) (hlen : bs.length + 1 ≤ 140737488355328) (hBw : B ≤ w.heap.size) :
    Calls Tryd.prog 34 #[.pointer (some ⟨b, 0, none⟩), .int .u8 c] w fun e w' => e = .returned .nilIface ∧ Lib.IsBuilder 49 5 B b (Lib.byteCells (bs ++ [d])) w' ∧ Below B w w' := by
  subst hd
  refine (bByte B b _ _ w h (by rw [Lib.byteCells_length]; exact hlen) hBw).mono fun e w' ⟨he, h1, h2⟩ => ⟨he, Or.inr (by rw [byteCells_snoc]; exact h1), h2⟩

set_option maxRecDepth 100000 in
set_option maxHeartbeats 4000000 in
theorem unescape_any (q : Bool) (s : ByteArray) (w : World) (ht : TabAt w) (hs : s.size ≤ 4611686018427387904) (hr : ∀ r, Pl.une (Pl.pl q) (bl s) = some r → r.length ≤ 140737488355328) :
    Calls Tryd.prog 26 #[.string s, .int .u8 (mv q)] w fun e w' => UneEnd q s e ∧ Below w.heap.size w w' := by
  have HRR := Lib.hid hr; clear hr
  have m32 := mv_eq q
  have m4 := mv_4 q
  have m8 := mv_8 q
  go_enter Tryd.func26, Tryd.ntmps26
  go_wp2_with fail
  go_loop [0, 6, 7, 8] (fun p n hp i => ∃ (k m : Nat) (b : Bool), k ≤ s.size ∧ m ≤ k ∧ p = .string s ∧ n = .int .i64 m ∧ hp = .bool b ∧ i = .int .i64 k ∧ ScanRel q s k m b) (fun _ _ _ i => s.size - (intOf i).toNat)
  case atStart => exact ⟨0, 0, false, Nat.zero_le _, Nat.le_refl _, rfl, rfl, rfl, rfl, scan_start q s⟩
  case round =>
    obtain ⟨k, m, b, hk, hm, rfl, rfl, rfl, rfl, hrel⟩ := hrel
    have HR := Lib.hid hrel; clear hrel
    by_cases hlt : k < s.size
    · by_cases h37 : s[k] = 37
      · have hc := b37 h37
        by_cases h2 : k + 2 < s.size
        · have hd : decide ((s.size : Int) ≤ (k : Int) + 2) = false := by simp; omega
          cases ha : Pl.hexB s[k + 1] with
          | false =>
            have HF := Lib.hid (scan_bad q s k m b HR.out h2 h37 (by rw [ha]; rfl))
            clear h37
            go_wp2_with (go_at_call 30; refine (ishex_any _ _ ht).mono ?_; rintro e w' ⟨rfl, rfl⟩)
            all_goals go_ret2
            all_goals exact ⟨UneEnd.bad HF.out _, Below.refl _ _⟩
          | true =>
            cases hb : Pl.hexB s[k + 2] with
            | false =>
              have HF := Lib.hid (scan_bad q s k m b HR.out h2 h37 (by rw [ha, hb]; rfl))
              clear h37
              go_wp2_with (go_at_call 30; refine (ishex_any _ _ ht).mono ?_; rintro e w' ⟨rfl, rfl⟩)
              all_goals go_ret2
              all_goals exact ⟨UneEnd.bad HF.out _, Below.refl _ _⟩
            | true =>
              have HF := Lib.hid (scan_esc q s k m b HR.out h2 h37 ha hb)
              clear h37
              go_wp2_with (go_at_call 30; refine (ishex_any _ _ ht).mono ?_; rintro e w' ⟨rfl, rfl⟩)
              go_round
              case rel => exact ⟨k + 3, m + 1, b, by omega, by omega, rfl, by go_num, rfl, by go_num, HF.out⟩
              case measure => simp [intOf]; omega
        · have hd : decide ((s.size : Int) ≤ (k : Int) + 2) = true := by simp; omega
          have HF := Lib.hid (scan_short q s k m b HR.out hlt (by omega) h37)
          clear h37
          go_wp2_with (go_at_call 30; refine (ishex_any _ _ ht).mono ?_; rintro e w' ⟨rfl, rfl⟩)
          all_goals go_ret2
          all_goals exact ⟨UneEnd.bad HF.out _, Below.refl _ _⟩
      · have hc := n37 h37
        by_cases h43 : s[k] = 43
        · have hc2 := b43 h43
          have HF := Lib.hid (scan_plus q s k m b HR.out hlt h43)
          clear h37 h43
          go_wp2_with fail
          go_round
          case rel => exact ⟨k + 1, m, q, by omega, by omega, rfl, rfl, rfl, by go_num, HF.out⟩
          case measure => simp [intOf]; omega
        · have hc2 := n43 h43
          have HF := Lib.hid (scan_plain q s k m b HR.out hlt h37 h43)
          clear h37 h43
          go_wp2_with fail
          go_round
          case rel => exact ⟨k + 1, m, b, by omega, by omega, rfl, rfl, rfl, by go_num, HF.out⟩
          case measure => simp [intOf]; omega
    · obtain ⟨r, hr1, hr2, hr3⟩ := scan_end q s k m b HR.out (by omega)
      have HL := Lib.hid (HRR.out r hr1)
      have H1 := Lib.hid hr1; clear hr1
      have H2 := Lib.hid hr2
      have H3 := Lib.hid hr3; clear hr3
      clear hr2
      have hm2 : 2 * m ≤ s.size := by have := H2.out; omega
      by_cases h0 : m = 0 ∧ b = false
      · have hm0 : ((m : Int) == 0) = true := beq_iff_eq.2 (by omega)
        have HE := Lib.hid (H3.out h0.1 h0.2)
        obtain ⟨_, rfl⟩ := h0
        go_wp2_with fail
        go_ret2
        exact ⟨UneEnd.good H1.out (by rw [HE.out, mk_bl]), Below.refl _ _⟩
      · go_upto_region 26 with fail
        go_cut [153] (fun x wc => x = .bool false ∧ w = wc)
        case first =>
          by_cases hm0 : m = 0
          · have hm1 : ((m : Int) == 0) = true := beq_iff_eq.2 (by omega)
            have hbt : b = true := by
              cases b with
              | true => rfl
              | false => exact absurd ⟨hm0, rfl⟩ h0
            subst hbt
            clear h0 hm0
            go_wp2_with fail
            go_meet
            exact ⟨rfl, rfl⟩
          · have hm1 : ((m : Int) == 0) = false := beq_eq_false_iff_ne.2 (by omega)
            clear h0 hm0
            go_wp2_with fail
            go_meet
            exact ⟨rfl, rfl⟩
        case rest =>
          obtain ⟨rfl, rfl⟩ := hcut
          cases q with
          | true =>
            go_wp2_with fail
            refine (bGrowZ w.heap.size w.heap.size r.length _ _ (by have := H2.out; omega) (Nat.le_refl _) (by rw [heap_alloc_new]) (by simp) (by have := HL.out; omega)).mono ?_
            rintro e w1 ⟨rfl, hB1, hb1⟩
            have HB1 := Lib.hid hB1; clear hB1
            have hbw : Below w.heap.size w w1 := ((Below.refl _ _).alloc (Nat.le_refl _) _).trans hb1
            clear h0 hlt hm hk HR H3 HRR m32 m4 m8
            go_wp2_with fail
            go_loopw [12] (fun i wr => ∃ (k : Nat) (bs : List UInt8), k ≤ s.size ∧ i = .int .i64 k ∧ Lib.IsBuilder 49 5 w.heap.size w.heap.size (Lib.byteCells bs) wr ∧ Below w.heap.size w wr ∧ UneRel true s r k bs) (fun i _ => s.size - (intOf i).toNat)
            case atStart => exact ⟨0, [], Nat.zero_le _, rfl, Or.inr HB1.out, hbw, une_start true s r H1.out⟩
            case round =>
              obtain ⟨k, bs, hk, rfl, hB, hbel, hrel⟩ := hrel
              have HB := Lib.hid hB; clear hB
              have HR := Lib.hid hrel; clear hrel
              by_cases hlt : k < s.size
              · by_cases h37 : s[k] = 37
                · have hc := b37 h37
                  obtain ⟨h2, ha, hb, hnew⟩ := une_esc true s r k bs HR.out hlt h37
                  have hroom : bs.length + 1 ≤ 140737488355328 := Nat.le_trans (une_room _ _ _ _ _ _ hnew) HL.out
                  have HN := Lib.hid hnew; clear hnew
                  have hor := or_val (Pl.hv s[k + 1]) (Pl.hv s[k + 2]) (hv_lt _ ha) (hv_lt _ hb)
                  have hv1 := hv_lt _ ha
                  have hv2 := hv_lt _ hb
                  have HBY := Lib.hid (byte_of (Pl.hv s[k + 1] * 16 + Pl.hv s[k + 2]) (by omega))
                  clear h37 ha hb
                  go_wp2_with fail
                  have q1 : IntKind.i64.wrap ((k : Int) + 1) = (k : Int) + 1 := IntWalk.i64_in _ (by omega)
                  have q2 : IntKind.i64.wrap ((k : Int) + 2) = (k : Int) + 2 := IntWalk.i64_in _ (by omega)
                  have q3 : ((k : Int) + 1).toNat = k + 1 := by omega
                  have q4 : ((k : Int) + 2).toNat = k + 2 := by omega
                  have q5 : (0 : Int) ≤ (k : Int) + 1 := by omega
                  have q6 : (0 : Int) ≤ (k : Int) + 2 := by omega
                  have q8 : (k : Int) + 1 < (s.size : Int) := by omega
                  have q9 : (k : Int) + 2 < (s.size : Int) := by omega
                  refine wp_region_still_tail 12 (by kernel_rfl) (by kernel_rfl) ?_
                  simp only [List.take_succ_cons, List.take_zero, List.drop_succ_cons, List.drop_zero]
                  iterate 4 still_step
                  still_call ((unhex_any _ _).mono fun _ _ h => ⟨h.1, h.2.symm⟩)
                  iterate 5 still_step
                  still_call ((unhex_any _ _).mono fun _ _ h => ⟨h.1, h.2.symm⟩)
                  still_step
                  refine wpStill_nil ?_
                  change wpList _ _ _ _ _ wr.drew
                  have HBD := Lib.hid (show Lib.IsBuilder 49 5 w.heap.size w.heap.size (Lib.byteCells bs) wr.drew from HB.out)
                  (try clear q1); (try clear q2); (try clear q3); (try clear q4); (try clear q5); (try clear q6)
                  go_wp2_with (go_at_call 34; refine (bByteC w.heap.size w.heap.size bs _ (UInt8.ofNat (Pl.hv s[k + 1] * 16 + Pl.hv s[k + 2])) _ (by rw [HBY.out]; first | omega | rw [hor]) HBD.out hroom hbel.size).mono ?_; rintro e w2 ⟨rfl, hB2, hb2⟩)
                  go_roundw
                  case rel => exact ⟨k + 3, _, by omega, by go_num, hB2, hbel.drew.trans hb2, HN.out⟩
                  case measure => simp [intOf]; omega
                · have hc := n37 h37
                  by_cases h43 : s[k] = 43
                  · have hc2 := b43 h43
                    have hnew := une_one true s r k bs HR.out hlt h37
                    rw [if_pos h43] at hnew
                    have hroom : bs.length + 1 ≤ 140737488355328 := Nat.le_trans (une_room _ _ _ _ _ _ hnew) HL.out
                    have HN := Lib.hid hnew; clear hnew h37 h43
                    go_wp2_with (go_at_call 34; refine (bByteC w.heap.size w.heap.size bs _ (Pl.pl true) _ rfl HB.out hroom hbel.size).mono ?_; rintro e w2 ⟨rfl, hB2, hb2⟩)
                    go_roundw
                    case rel => exact ⟨k + 1, _, by omega, by go_num, hB2, hbel.trans hb2, HN.out⟩
                    case measure => simp [intOf]; omega
                  · have hc2 := n43 h43
                    have hnew := une_one true s r k bs HR.out hlt h37
                    rw [if_neg h43] at hnew
                    have hroom : bs.length + 1 ≤ 140737488355328 := Nat.le_trans (une_room _ _ _ _ _ _ hnew) HL.out
                    have HN := Lib.hid hnew; clear hnew h37 h43
                    go_wp2_with (go_at_call 34; refine (bByteC w.heap.size w.heap.size bs _ s[k] _ rfl HB.out hroom hbel.size).mono ?_; rintro e w2 ⟨rfl, hB2, hb2⟩)
                    go_roundw
                    case rel => exact ⟨k + 1, _, by omega, by go_num, hB2, hbel.trans hb2, HN.out⟩
                    case measure => simp [intOf]; omega
              · have HE := Lib.hid (une_end true s r k bs HR.out (by omega))
                go_wp2_with fail
                refine (bString w.heap.size w.heap.size bs _ HB.out hbel.size).mono ?_
                rintro e w2 ⟨rfl, hb2⟩
                go_wp2_with fail
                go_ret2
                exact ⟨UneEnd.good H1.out (by rw [HE.out]; rfl), hbel.trans hb2⟩
          | false =>
            go_wp2_with fail
            refine (bGrowZ w.heap.size w.heap.size r.length _ _ (by have := H2.out; omega) (Nat.le_refl _) (by rw [heap_alloc_new]) (by simp) (by have := HL.out; omega)).mono ?_
            rintro e w1 ⟨rfl, hB1, hb1⟩
            have HB1 := Lib.hid hB1; clear hB1
            have hbw : Below w.heap.size w w1 := ((Below.refl _ _).alloc (Nat.le_refl _) _).trans hb1
            clear h0 hlt hm hk HR H3 HRR m32 m4 m8
            go_wp2_with fail
            go_loopw [12] (fun i wr => ∃ (k : Nat) (bs : List UInt8), k ≤ s.size ∧ i = .int .i64 k ∧ Lib.IsBuilder 49 5 w.heap.size w.heap.size (Lib.byteCells bs) wr ∧ Below w.heap.size w wr ∧ UneRel false s r k bs) (fun i _ => s.size - (intOf i).toNat)
            case atStart => exact ⟨0, [], Nat.zero_le _, rfl, Or.inr HB1.out, hbw, une_start false s r H1.out⟩
            case round =>
              obtain ⟨k, bs, hk, rfl, hB, hbel, hrel⟩ := hrel
              have HB := Lib.hid hB; clear hB
              have HR := Lib.hid hrel; clear hrel
              by_cases hlt : k < s.size
              · by_cases h37 : s[k] = 37
                · have hc := b37 h37
                  obtain ⟨h2, ha, hb, hnew⟩ := une_esc false s r k bs HR.out hlt h37
                  have hroom : bs.length + 1 ≤ 140737488355328 := Nat.le_trans (une_room _ _ _ _ _ _ hnew) HL.out
                  have HN := Lib.hid hnew; clear hnew
                  have hor := or_val (Pl.hv s[k + 1]) (Pl.hv s[k + 2]) (hv_lt _ ha) (hv_lt _ hb)
                  have hv1 := hv_lt _ ha
                  have hv2 := hv_lt _ hb
                  have HBY := Lib.hid (byte_of (Pl.hv s[k + 1] * 16 + Pl.hv s[k + 2]) (by omega))
                  clear h37 ha hb
                  go_wp2_with fail
                  have q1 : IntKind.i64.wrap ((k : Int) + 1) = (k : Int) + 1 := IntWalk.i64_in _ (by omega)
                  have q2 : IntKind.i64.wrap ((k : Int) + 2) = (k : Int) + 2 := IntWalk.i64_in _ (by omega)
                  have q3 : ((k : Int) + 1).toNat = k + 1 := by omega
                  have q4 : ((k : Int) + 2).toNat = k + 2 := by omega
                  have q5 : (0 : Int) ≤ (k : Int) + 1 := by omega
                  have q6 : (0 : Int) ≤ (k : Int) + 2 := by omega
                  have q8 : (k : Int) + 1 < (s.size : Int) := by omega
                  have q9 : (k : Int) + 2 < (s.size : Int) := by omega
                  refine wp_region_still_tail 12 (by kernel_rfl) (by kernel_rfl) ?_
                  simp only [List.take_succ_cons, List.take_zero, List.drop_succ_cons, List.drop_zero]
                  iterate 4 still_step
                  still_call ((unhex_any _ _).mono fun _ _ h => ⟨h.1, h.2.symm⟩)
                  iterate 5 still_step
                  still_call ((unhex_any _ _).mono fun _ _ h => ⟨h.1, h.2.symm⟩)
                  still_step
                  refine wpStill_nil ?_
                  change wpList _ _ _ _ _ wr.drew
                  have HBD := Lib.hid (show Lib.IsBuilder 49 5 w.heap.size w.heap.size (Lib.byteCells bs) wr.drew from HB.out)
                  (try clear q1); (try clear q2); (try clear q3); (try clear q4); (try clear q5); (try clear q6)
                  go_wp2_with (go_at_call 34; refine (bByteC w.heap.size w.heap.size bs _ (UInt8.ofNat (Pl.hv s[k + 1] * 16 + Pl.hv s[k + 2])) _ (by rw [HBY.out]; first | omega | rw [hor]) HBD.out hroom hbel.size).mono ?_; rintro e w2 ⟨rfl, hB2, hb2⟩)
                  go_roundw
                  case rel => exact ⟨k + 3, _, by omega, by go_num, hB2, hbel.drew.trans hb2, HN.out⟩
                  case measure => simp [intOf]; omega
                · have hc := n37 h37
                  by_cases h43 : s[k] = 43
                  · have hc2 := b43 h43
                    have hnew := une_one false s r k bs HR.out hlt h37
                    rw [if_pos h43] at hnew
                    have hroom : bs.length + 1 ≤ 140737488355328 := Nat.le_trans (une_room _ _ _ _ _ _ hnew) HL.out
                    have HN := Lib.hid hnew; clear hnew h37 h43
                    go_wp2_with (go_at_call 34; refine (bByteC w.heap.size w.heap.size bs _ (Pl.pl false) _ rfl HB.out hroom hbel.size).mono ?_; rintro e w2 ⟨rfl, hB2, hb2⟩)
                    go_roundw
                    case rel => exact ⟨k + 1, _, by omega, by go_num, hB2, hbel.trans hb2, HN.out⟩
                    case measure => simp [intOf]; omega
                  · have hc2 := n43 h43
                    have hnew := une_one false s r k bs HR.out hlt h37
                    rw [if_neg h43] at hnew
                    have hroom : bs.length + 1 ≤ 140737488355328 := Nat.le_trans (une_room _ _ _ _ _ _ hnew) HL.out
                    have HN := Lib.hid hnew; clear hnew h37 h43
                    go_wp2_with (go_at_call 34; refine (bByteC w.heap.size w.heap.size bs _ s[k] _ rfl HB.out hroom hbel.size).mono ?_; rintro e w2 ⟨rfl, hB2, hb2⟩)
                    go_roundw
                    case rel => exact ⟨k + 1, _, by omega, by go_num, hB2, hbel.trans hb2, HN.out⟩
                    case measure => simp [intOf]; omega
              · have HE := Lib.hid (une_end false s r k bs HR.out (by omega))
                go_wp2_with fail
                refine (bString w.heap.size w.heap.size bs _ HB.out hbel.size).mono ?_
                rintro e w2 ⟨rfl, hb2⟩
                go_wp2_with fail
                go_ret2
                exact ⟨UneEnd.good H1.out (by rw [HE.out]; rfl), hbel.trans hb2⟩
end Go.Proofs.YtjfgadnjdcopcaaDoor
