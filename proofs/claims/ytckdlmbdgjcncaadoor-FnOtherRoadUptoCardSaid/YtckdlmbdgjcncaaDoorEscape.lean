/-
  The contract of net/url.escape in the modes of a path segment (q = false) and of a query (q = true): the bytes' escapes; what was there stays. Conditions: the table lies in its variable; the result is no longer than 2^48 bytes, the string no longer than 2^50.
-/
import Derived.Test.YtckdlmbdgjcncaaDoorEscP
import Derived.Deep.DeepCutAuto
namespace Go.Proofs.YtckdlmbdgjcncaaDoor
open Go.RowKit
set_option maxRecDepth 100000 in
set_option maxHeartbeats 2000000 in
theorem escape_any (q : Bool) (s : ByteArray) (w : World) (ht : TabAt w) (hs : s.size ≤ 1125899906842624) (hr : (EB q (bl s)).length ≤ 281474976710656) :
    Calls Tryd.prog 25 #[.string s, .int .u8 (mv q)] w fun e w' => e = .returned (.string (mk (EB q (bl s)))) ∧ Below w.heap.size w w' := by
  obtain ⟨cap, w1, hconv, hcell, hb1, hsz⟩ := conv_str s w
  have HC := Lib.hid hcell; clear hcell
  have ht1 := ht.below hb1 (tab_lt ht)
  have HZ := Lib.hid hsz; clear hsz
  have hq := mv_eq q
  go_enter Tryd.func25, Tryd.ntmps25
  go_wp2_with fail
  clear hconv
  go_loop [5, 6, 19] (fun a b i => ∃ k : Nat, k ≤ s.size ∧ i = .int .i64 k ∧ a = .int .i64 (spB q ((bl s).take k)) ∧ b = .int .i64 (hxB q ((bl s).take k))) (fun _ _ i => s.size - (intOf i).toNat)
  case atStart => exact ⟨0, Nat.zero_le _, rfl, by cases q <;> rfl, by cases q <;> rfl⟩
  case round =>
    obtain ⟨k, hk, rfl, rfl, rfl⟩ := hrel
    have hl1 : spB q ((bl s).take k) ≤ k := Nat.le_trans (sp_le _ _) (List.length_take_le _ _)
    have hl2 : hxB q ((bl s).take k) ≤ k := Nat.le_trans (hx_le _ _) (List.length_take_le _ _)
    by_cases hlt : k < s.size
    · have hc := HC.out k hlt
      cases hse : seB (mv q) s[k] with
      | false =>
        have H := Lib.hid (step_no q s k hlt hse)
        go_wp2_with (go_at_call 28; refine (should_any _ _ _ ht1).mono ?_; rintro e w' ⟨rfl, rfl⟩)
        go_round
        case rel => exact ⟨k + 1, by omega, by go_num, val_i64 H.out.1.symm, val_i64 H.out.2.symm⟩
        case measure => simp [intOf]; omega
      | true =>
        by_cases h32 : s[k] = 32
        · have hb : ((s[k].toNat : Int) == 32) = true := by rw [h32]; rfl
          have H32 := Lib.hid h32; clear h32
          cases q with
          | true =>
            have H := Lib.hid (step_sp s k hlt H32.out)
            go_wp2_with (go_at_call 28; refine (should_any _ _ _ ht1).mono ?_; rintro e w' ⟨rfl, rfl⟩)
            go_round
            case rel => exact ⟨k + 1, by omega, by go_num, by rw [H.out.1]; go_num, val_i64 H.out.2.symm⟩
            case measure => simp [intOf]; omega
          | false =>
            have H := Lib.hid (step_hx false s k hlt hse rfl)
            go_wp2_with (go_at_call 28; refine (should_any _ _ _ ht1).mono ?_; rintro e w' ⟨rfl, rfl⟩)
            go_round
            case rel => exact ⟨k + 1, by omega, by go_num, val_i64 H.out.1.symm, by rw [H.out.2]; go_num⟩
            case measure => simp [intOf]; omega
        · have hb : ((s[k].toNat : Int) == 32) = false := byte_ne (b := 32).2 h32
          have H := Lib.hid (step_hx q s k hlt hse (by simp [h32]))
          clear h32
          go_wp2_with (go_at_call 28; refine (should_any _ _ _ ht1).mono ?_; rintro e w' ⟨rfl, rfl⟩)
          go_round
          case rel => exact ⟨k + 1, by omega, by go_num, val_i64 H.out.1.symm, by rw [H.out.2]; go_num⟩
          case measure => simp [intOf]; omega
    · rw [bl_take_all s k (by omega)] at hl1 hl2 ⊢
      have hEL := EB_len q (bl s)
      have hES := EB_self q (bl s)
      rw [length_bl] at hEL
      generalize hN : spB q (bl s) = N at *
      generalize hH : hxB q (bl s) = H at *
      have HN := Lib.hid hN; clear hN
      have HH := Lib.hid hH; clear hH
      have HEL := Lib.hid hEL; clear hEL
      have HES := Lib.hid hES; clear hES
      have hR : s.size + 2 * H ≤ 281474976710656 := by rw [← HEL.out]; exact hr
      by_cases h0 : N = 0 ∧ H = 0
      · have hN0 : ((N : Int) == 0) = true := beq_iff_eq.2 (by omega)
        have hH0 : ((H : Int) == 0) = true := beq_iff_eq.2 (by omega)
        have HE := Lib.hid (HES.out h0.1 h0.2)
        clear h0
        go_wp2
        go_ret
        exact ⟨ret_str (by rw [HE.out, mk_bl]), hb1⟩
      · go_upto_region 10 with fail
        go_cut [42] (fun b wc => b = .bool false ∧ w1 = wc)
        case first =>
          by_cases hn : N = 0
          · have hN0 : ((N : Int) == 0) = true := beq_iff_eq.2 (by omega)
            have hH0 : ((H : Int) == 0) = false := beq_eq_false_iff_ne.2 (by omega)
            clear h0 hn
            go_wp2
            go_meet
            exact ⟨rfl, rfl⟩
          · have hN0 : ((N : Int) == 0) = false := beq_eq_false_iff_ne.2 (by omega)
            clear h0 hn
            go_wp2
            go_meet
            exact ⟨rfl, rfl⟩
        case rest =>
          obtain ⟨rfl, rfl⟩ := hcut
          go_upto_if 50 with fail
          go_cut [10] (fun t wc => ∃ T cp, t = .slice (some ⟨T, 0, none⟩) (s.size + 2 * H) cp ∧ RowAt wc T [] (s.size + 2 * H) ∧ Below w.heap.size w wc ∧ w.heap.size ≤ T ∧ T < wc.heap.size)
          case first =>
            by_cases h64 : s.size + 2 * H ≤ 64
            · have hsl := slice_buf w1.heap.size (s.size + 2 * H) ((s.size : Int) + 2 * (H : Int)) (by omega) h64
              go_wp2
              go_meet
              exact ⟨w1.heap.size, 64, rfl, row_buf w1 _ _ _ h64, hb1.alloc hb1.size _, hb1.size, by simp⟩
            · have hmk := make_row (s.size + 2 * H) ((s.size : Int) + 2 * (H : Int)) (by omega) hR
              go_wp2
              go_meet
              exact ⟨w1.heap.size + 1, s.size + 2 * H, rfl, by simpa using row_made (w1.alloc _) (s.size + 2 * H), (hb1.alloc hb1.size _).alloc (by have := hb1.size; simp; omega) _, by have := hb1.size; omega, by simp⟩
          case rest =>
            obtain ⟨T, cp, rfl, hrow, hbc, hT, hT2⟩ := hcut
            clear hl1 hl2 ht1
            have HROW := Lib.hid hrow; clear hrow
            have htc := ht.below hbc (tab_lt ht)
            by_cases hH : H = 0
            · have hH0 : ((H : Int) == 0) = true := beq_iff_eq.2 (by omega)
              have hqt : q = true := by
                cases q with
                | true => rfl
                | false => exact absurd ⟨HN.out.symm, hH⟩ h0
              subst hqt
              have HHZ := Lib.hid (HH.out.trans hH)
              obtain ⟨w2, hcp, hrow2, hg2⟩ := copy_str wc T (s.size + 2 * H) cp (s.size + 2 * H) s HROW.out (by omega) (by omega)
              have HROW2 := Lib.hid hrow2; clear hrow2
              have HM := Lib.hid (show s.size = s.size + 2 * H by omega)
              clear hH h0
              go_wp2_with fail
              clear hcp
              go_loopw [12] (fun i wr => ∃ k : Nat, k ≤ s.size ∧ i = .int .i64 k ∧ RowAt wr T (L2 (bl s) k) (s.size + 2 * H) ∧ w2.grownBy wr (some T)) (fun i _ => s.size - (intOf i).toNat)
              case atStart => exact ⟨0, Nat.zero_le _, rfl, by rw [L2_zero]; exact HROW2.out, World.grownBy.refl _ _⟩
              case round =>
                obtain ⟨k, hk, rfl, hrw, hgr⟩ := hrel
                have HRW := Lib.hid hrw; clear hrw
                by_cases hlt2 : k < s.size
                · have hf0 := HRW.out.frozen k
                  obtain ⟨v0, hv0⟩ := HRW.out.ahead k (by omega)
                  by_cases h32 : s[k] = 32
                  · have hcc : ((s[k].toNat : Int) == 32) = true := by rw [h32]; rfl
                    have G32 := Lib.hid h32; clear h32
                    go_wp2
                    go_roundw
                    case rel => exact ⟨k + 1, by omega, by go_num, by rw [← L2_hit s k hlt2 G32.out]; exact HRW.out.over k (by rw [L2_length, length_bl]; exact hlt2) 43, grown_set hgr _ _⟩
                    case measure => simp [intOf]; omega
                  · have hcc : ((s[k].toNat : Int) == 32) = false := (byte_ne (b := 32)).2 h32
                    have G32 := Lib.hid h32; clear h32
                    go_wp2
                    go_roundw
                    case rel => exact ⟨k + 1, by omega, by go_num, by rw [← L2_miss s k hlt2 G32.out]; exact HRW.out, hgr⟩
                    case measure => simp [intOf]; omega
                · rw [L2_end s k (by omega) HHZ.out] at HRW
                  have hback := conv_back wr T (s.size + 2 * H) cp (s.size + 2 * H) (EB true (bl s)) HRW.out HEL.out
                  clear hq
                  go_wp2
                  go_ret
                  exact ⟨rfl, hbc.trans ((below_grown hg2 hbc.size hT).trans (below_grown hgr (Nat.le_trans hbc.size hg2.size) hT))⟩
            · have hH0 : ((H : Int) == 0) = false := beq_eq_false_iff_ne.2 (by omega)
              obtain ⟨cap2, w2, hconv2, hcell2, hb2, hsz2⟩ := conv_str s wc
              have HC2 := Lib.hid hcell2; clear hcell2
              have HZ2 := Lib.hid hsz2; clear hsz2
              clear hH h0
              go_wp2_with fail
              clear hconv2
              go_loopw [13, 78] (fun j i wr => ∃ k : Nat, k ≤ s.size ∧ i = .int .i64 k ∧ j = .int .i64 (EB q ((bl s).take k)).length ∧ RowAt wr T (EB q ((bl s).take k)) (s.size + 2 * H) ∧ w2.grownBy wr (some T)) (fun _ i _ => s.size - (intOf i).toNat)
              case atStart => exact ⟨0, Nat.zero_le _, rfl, by cases q <;> rfl, by cases q <;> exact HROW.out.of_block (hb2.block _ hT2), World.grownBy.refl _ _⟩
              case round =>
                obtain ⟨k, hk, rfl, rfl, hrw, hgr⟩ := hrel
                have HRW := Lib.hid hrw; clear hrw
                by_cases hlt2 : k < s.size
                · have hc : wr.cell? ⟨wc.heap.size, k, none⟩ = some (.int .u8 (s[k].toNat : Int)) := hgr.cell (HC2.out k hlt2) (by simp; omega)
                  have htr : TabAt wr := (htc.below hb2 (tab_lt htc)).grown hgr (by have := tab_lt ht; omega)
                  have hroom := EB_room q s k hlt2
                  rw [HEL.out] at hroom
                  have hst := EB_take q s k hlt2
                  have hfz := HRW.out.frozen
                  have hnx := HRW.out.ahead
                  generalize hJ : (EB q ((bl s).take k)).length = J at *
                  have HJ := Lib.hid hJ; clear hJ
                  have HST := Lib.hid hst; clear hst
                  have HFZ := Lib.hid hfz; clear hfz
                  have hf0 := HFZ.out J
                  have HNX := Lib.hid hnx; clear hnx
                  have hcl := UInt8.toNat_lt s[k]
                  cases hse : seB (mv q) s[k] with
                  | false =>
                    obtain ⟨g1, _, g3⟩ := f_no q _ hse
                    rw [g1] at hroom HST
                    have hroom1 : J + 1 ≤ s.size + 2 * H := by simpa using hroom
                    clear hroom g1
                    obtain ⟨v0, hv0⟩ := HNX.out J (by omega)
                    by_cases h32 : s[k] = 32
                    · have hcc : ((s[k].toNat : Int) == 32) = true := by rw [h32]; rfl
                      have hqf : q = false := by cases q with
                        | false => rfl
                        | true => exact absurd h32 (g3 rfl)
                      subst hqf
                      have G32 := Lib.hid h32; clear h32 g3
                      go_wp2_with (go_at_call 28; refine (should_any _ _ _ htr).mono ?_; rintro e w' ⟨rfl, rfl⟩)
                      go_roundw
                      case rel => exact ⟨k + 1, by omega, by go_num, by rw [HST.out, List.length_append, HJ.out]; go_num, by rw [HST.out]; exact HRW.out.push J HJ.out (by omega) _, grown_set hgr _ _⟩
                      case measure => simp [intOf]; omega
                    · have hcc : ((s[k].toNat : Int) == 32) = false := (byte_ne (b := 32)).2 h32
                      clear h32 g3
                      go_wp2_with (go_at_call 28; refine (should_any _ _ _ htr).mono ?_; rintro e w' ⟨rfl, rfl⟩)
                      go_roundw
                      case rel => exact ⟨k + 1, by omega, by go_num, by rw [HST.out, List.length_append, HJ.out]; go_num, by rw [HST.out]; exact HRW.out.push J HJ.out (by omega) _, grown_set hgr _ _⟩
                      case measure => simp [intOf]; omega
                  | true =>
                    cases h32 : (q && s[k] == 32) with
                    | true =>
                      rw [Bool.and_eq_true, beq_iff_eq] at h32
                      obtain ⟨hqt, h33⟩ := h32
                      subst hqt
                      have hcc : ((s[k].toNat : Int) == 32) = true := by rw [h33]; rfl
                      have g1 : fB true s[k] = [43] := by rw [h33]; exact f_sp.1
                      rw [g1] at hroom HST
                      have hroom1 : J + 1 ≤ s.size + 2 * H := by simpa using hroom
                      clear hroom g1
                      have H33 := Lib.hid h33; clear h33
                      obtain ⟨v0, hv0⟩ := HNX.out J (by omega)
                      go_wp2_with (go_at_call 28; refine (should_any _ _ _ htr).mono ?_; rintro e w' ⟨rfl, rfl⟩)
                      go_roundw
                      case rel => exact ⟨k + 1, by omega, by go_num, by rw [HST.out, List.length_append, HJ.out]; go_num, by rw [HST.out]; exact HRW.out.push J HJ.out (by omega) 43, grown_set hgr _ _⟩
                      case measure => simp [intOf]; omega
                    | false =>
                      obtain ⟨g1, _, _⟩ := f_hx q _ hse h32
                      rw [g1] at hroom HST
                      have hroom3 : J + 3 ≤ s.size + 2 * H := by simpa [Pl.pct] using hroom
                      clear hroom g1
                      obtain ⟨v0, hv0⟩ := HNX.out J (by omega)
                      obtain ⟨v1, hv1⟩ := HNX.out (J + 1) (by omega)
                      obtain ⟨v2, hv2⟩ := HNX.out (J + 2) (by omega)
                      have hf1 := HFZ.out (J + 1)
                      have hf2 := HFZ.out (J + 2)
                      by_cases h33 : s[k] = 32
                      · have hcc : ((s[k].toNat : Int) == 32) = true := by rw [h33]; rfl
                        have hqf : q = false := by simpa [h33] using h32
                        subst hqf
                        have G32 := Lib.hid h33; clear h32 h33
                        go_wp2_with (go_at_call 28; refine (should_any _ _ _ htr).mono ?_; rintro e w' ⟨rfl, rfl⟩)
                        go_roundw
                        case rel => exact ⟨k + 1, by omega, by go_num, by rw [HST.out, List.length_append, HJ.out]; simp [Pl.pct], by rw [HST.out]; exact HRW.out.push3 J HJ.out hroom3 37 _ _ rfl (dig_val _ (by omega) _) (dig_val _ (by omega) _), grown_set (grown_set (grown_set hgr _ _) _ _) _ _⟩
                        case measure => simp [intOf]; omega
                      · have hcc : ((s[k].toNat : Int) == 32) = false := (byte_ne (b := 32)).2 h33
                        have H32 := Lib.hid h32; clear h32 h33
                        go_wp2_with (go_at_call 28; refine (should_any _ _ _ htr).mono ?_; rintro e w' ⟨rfl, rfl⟩)
                        go_roundw
                        case rel => exact ⟨k + 1, by omega, by go_num, by rw [HST.out, List.length_append, HJ.out]; simp [Pl.pct], by rw [HST.out]; exact HRW.out.push3 J HJ.out hroom3 37 _ _ rfl (dig_val _ (by omega) _) (dig_val _ (by omega) _), grown_set (grown_set (grown_set hgr _ _) _ _) _ _⟩
                        case measure => simp [intOf]; omega
                · rw [bl_take_all s k (by omega)] at HRW
                  have hback := conv_back wr T (s.size + 2 * H) cp (s.size + 2 * H) (EB q (bl s)) HRW.out HEL.out
                  go_wp2
                  go_ret
                  exact ⟨rfl, hbc.trans ((hb2.mono hbc.size).trans (below_grown hgr (Nat.le_trans hbc.size hb2.size) hT))⟩
end Go.Proofs.YtckdlmbdgjcncaaDoor
