/-
  The contract of laws.small: the digits of escapes as small letters; what was there stays. Condition: the string is no longer than 2^62 bytes.
-/
import Derived.Test.YtjfgadnjdcopcaaDoorPlainU
import Derived.Test.YtjfgadnjdcopcaaDoorStr
import Derived.Lib.Hide
import Derived.Lib.ConvBytes
import Derived.Laws.IdiomStrings
import Derived.LoopN
namespace Go.Proofs.YtjfgadnjdcopcaaDoor
open Go.RowKit
/-- a byte as a cell -/
def bvS (c : UInt8) : Value := .int .u8 (c.toNat : Int)
/-- row T begins with the bytes l, which may be written -/
def RowS (w : World) (T : Nat) (l : List UInt8) : Prop := ∃ ty rest fr, w.heap[T]? = some (.cells (l.map bvS ++ rest).toArray ty fr) ∧ l.length ≤ fr.1
theorem RowS.frozen {w : World} {T : Nat} {l : List UInt8} (h : RowS w T l) (j : Nat) (hj : j < l.length) : w.frozen? ⟨T, j, none⟩ = false := by
  obtain ⟨ty, rest, fr, hh, hl⟩ := h
  simp [World.frozen?, hh]; omega
theorem RowS.read {w : World} {T : Nat} {l : List UInt8} (h : RowS w T l) (j : Nat) (hj : j < l.length) : w.cell? ⟨T, j, none⟩ = some (.int .u8 (l[j].toNat : Int)) := by
  obtain ⟨ty, rest, fr, hh, hl⟩ := h
  simp [World.cell?, hh, List.getElem?_append, hj, bvS]
theorem RowS.over {w : World} {T : Nat} {l : List UInt8} (h : RowS w T l) (j : Nat) (hj : j < l.length) (c : UInt8) {v : Value} (hv : v = bvS c) : RowS (w.setCell ⟨T, j, none⟩ v) T (l.set j c) := by
  subst hv
  obtain ⟨ty, rest, fr, hh, hl⟩ := h
  refine ⟨ty, rest, fr, ?_, by simpa using hl⟩
  have : (w.setCell ⟨T, j, none⟩ (bvS c)).heap[T]? = some (.cells ((l.map bvS ++ rest).set j (bvS c)).toArray ty fr) := by
    simp [World.setCell, Array.getElem?_modify, hh]
  rw [this, List.set_append_left _ _ (by simpa using hj), List.map_set]
theorem conv_rowS (s : ByteArray) (w : World) : ∃ cap w1, (convert 9 38 (.string s)).run Tryd.prog w = .ok (.slice (some ⟨w.heap.size, 0, none⟩) s.size cap) w1 ∧
    RowS w1 w.heap.size (bl s) ∧ Below w.heap.size w w1 := by
  refine ⟨_, _, Lib.run_convert_string_bytes w 9 38 5 s Tryd.underlying9 Tryd.underlying38 Tryd.underlying5, ?_, ?_⟩
  · refine ⟨5, (Array.replicate (grownCap w s.size 0 5 - s.size) (Value.int .u8 0)).toList, ((Lib.bytesCells w 5 s).size, (Lib.bytesCells w 5 s).size + 1), ?_, ?_⟩
    · have e : (List.map bvS (bl s) ++ (Array.replicate (grownCap w s.size 0 5 - s.size) (Value.int .u8 0)).toList).toArray = Lib.bytesCells w 5 s := by
        apply Array.ext'
        simp [Lib.bytesCells, bl, bvS]
      rw [e]
      exact Lib.bytesWorld_at_new w 5 s
    · have e : (Lib.bytesCells w 5 s).size = s.data.size + (grownCap w s.size 0 5 - s.size) := by simp [Lib.bytesCells]
      rw [length_bl]
      show s.data.size ≤ (Lib.bytesCells w 5 s).size
      omega
  · exact ⟨rfl, rfl, rfl, by rw [Lib.bytesWorld_size]; omega, fun k hk => Lib.bytesWorld_at_old w 5 s k hk⟩
theorem conv_backS (w : World) (T cap m : Nat) (l : List UInt8) (h : RowS w T l) (hm : l.length = m) :
    (convert 38 9 (.slice (some ⟨T, 0, none⟩) m cap)).run Tryd.prog w = .ok (.string (mk l)) w := by
  subst hm
  exact run_convert_bytes_back w 38 9 5 ⟨T, 0, none⟩ cap l Tryd.underlying38 Tryd.underlying5 Tryd.underlying9 (fun j hj => by
    have : (⟨T, 0, none⟩ : Addr).add j = ⟨T, j, none⟩ := by unfold Addr.add; split <;> simp_all
    rw [this]; exact h.read j hj)

/-- i bytes looked at: what is written so far, and the rest as it was -/
def SmRel (s : ByteArray) (w : World) (T i : Nat) : Prop := ∃ d : List UInt8, d.length = i ∧ RowS w T (d ++ (bl s).drop i) ∧ Pl.small (bl s) = d ++ Pl.small ((bl s).drop i)
theorem sm_start (s : ByteArray) (w : World) (T : Nat) (h : RowS w T (bl s)) : SmRel s w T 0 := ⟨[], rfl, by simpa using h, by simp⟩
theorem sm_read {s : ByteArray} {w : World} {T i : Nat} (h : SmRel s w T i) (j : Nat) (h0 : i ≤ j) (hj : j < s.size) : w.cell? ⟨T, j, none⟩ = some (.int .u8 (s[j].toNat : Int)) ∧ w.frozen? ⟨T, j, none⟩ = false := by
  obtain ⟨d, hd, hr, _⟩ := h
  have hl : j < (d ++ (bl s).drop i).length := by rw [List.length_append, List.length_drop, length_bl]; omega
  refine ⟨?_, hr.frozen j hl⟩
  rw [hr.read j hl]
  congr 3
  rw [List.getElem_append_right (by omega), List.getElem_drop]
  have : i + (j - d.length) = j := by omega
  simp only [this, bl_get s j hj]
theorem sm_skip {s : ByteArray} {w : World} {T i : Nat} (h : SmRel s w T i) (hi : i < s.size) (hc : s[i] ≠ 37) : SmRel s w T (i + 1) := by
  obtain ⟨d, hd, hr, hs⟩ := h
  rw [bl_drop s i hi] at hr hs
  rw [Pl.small_other _ _ hc] at hs
  exact ⟨d ++ [s[i]], by simp [hd], by simpa using hr, by rw [hs]; simp⟩
theorem low_in {c : UInt8} (h1 : 65 ≤ c.toNat) (h2 : c.toNat ≤ 70) : Value.int .u8 (((c.toNat : Int) + 32) % 256) = bvS (Pl.low1 c) := by
  have H : ∀ c : UInt8, 65 ≤ c.toNat → c.toNat ≤ 70 → (Pl.low1 c).toNat = c.toNat + 32 := Pl.forall_byte _ (by decide +kernel)
  unfold bvS; rw [H c h1 h2, show ((c.toNat : Int) + 32) % 256 = ((c.toNat + 32 : Nat) : Int) by omega]
theorem low_out {c : UInt8} (h : ¬ (65 ≤ c.toNat ∧ c.toNat ≤ 70)) : Pl.low1 c = c := by
  have H : ∀ c : UInt8, ¬ (65 ≤ c.toNat ∧ c.toNat ≤ 70) → Pl.low1 c = c := Pl.forall_byte _ (by decide +kernel)
  exact H c h
theorem set_mid (d r : List UInt8) (i : Nat) (hd : d.length = i) (a b x : UInt8) : (d ++ 37 :: a :: b :: r).set (i + 1) x = d ++ 37 :: x :: b :: r := by
  rw [List.set_append_right _ _ (by omega)]
  have : i + 1 - d.length = 1 := by omega
  rw [this]; rfl
theorem set_mid2 (d r : List UInt8) (i : Nat) (hd : d.length = i) (a b x : UInt8) : (d ++ 37 :: a :: b :: r).set (i + 2) x = d ++ 37 :: a :: x :: r := by
  rw [List.set_append_right _ _ (by omega)]
  have : i + 2 - d.length = 2 := by omega
  rw [this]; rfl
theorem sm_done {s : ByteArray} {w : World} {T i : Nat} (d : List UInt8) (hd : d.length = i) (h2 : i + 2 < s.size) (hc : s[i] = 37) (hs : Pl.small (bl s) = d ++ Pl.small ((bl s).drop i))
    (hr : RowS w T (d ++ 37 :: Pl.low1 s[i + 1] :: Pl.low1 s[i + 2] :: (bl s).drop (i + 3))) : SmRel s w T (i + 3) := by
  refine ⟨d ++ [37, Pl.low1 s[i + 1], Pl.low1 s[i + 2]], by simp [hd], by simpa using hr, ?_⟩
  rw [hs, bl_drop s i (by omega), bl_drop s (i + 1) (by omega), bl_drop s (i + 2) h2, hc, Pl.small_pct]
  simp
theorem sm_pct {s : ByteArray} {w : World} {T i : Nat} (h : SmRel s w T i) (h2 : i + 2 < s.size) (hc : s[i] = 37) :
    ((65 ≤ s[i + 1].toNat ∧ s[i + 1].toNat ≤ 70) → (65 ≤ s[i + 2].toNat ∧ s[i + 2].toNat ≤ 70) → SmRel s ((w.setCell ⟨T, i + 1, none⟩ (.int .u8 (((s[i + 1].toNat : Int) + 32) % 256))).setCell ⟨T, i + 2, none⟩ (.int .u8 (((s[i + 2].toNat : Int) + 32) % 256))) T (i + 3)) ∧
    ((65 ≤ s[i + 1].toNat ∧ s[i + 1].toNat ≤ 70) → ¬ (65 ≤ s[i + 2].toNat ∧ s[i + 2].toNat ≤ 70) → SmRel s (w.setCell ⟨T, i + 1, none⟩ (.int .u8 (((s[i + 1].toNat : Int) + 32) % 256))) T (i + 3)) ∧
    (¬ (65 ≤ s[i + 1].toNat ∧ s[i + 1].toNat ≤ 70) → (65 ≤ s[i + 2].toNat ∧ s[i + 2].toNat ≤ 70) → SmRel s (w.setCell ⟨T, i + 2, none⟩ (.int .u8 (((s[i + 2].toNat : Int) + 32) % 256))) T (i + 3)) ∧
    (¬ (65 ≤ s[i + 1].toNat ∧ s[i + 1].toNat ≤ 70) → ¬ (65 ≤ s[i + 2].toNat ∧ s[i + 2].toNat ≤ 70) → SmRel s w T (i + 3)) := by
  obtain ⟨d, hd, hr, hs⟩ := h
  have hr' := hr
  rw [bl_drop s i (by omega), bl_drop s (i + 1) (by omega), bl_drop s (i + 2) h2, hc] at hr'
  have hl : (d ++ 37 :: s[i + 1] :: s[i + 2] :: (bl s).drop (i + 3)).length = s.size := by simp [length_bl, hd]; omega
  refine ⟨fun ha hb => ?_, fun ha hb => ?_, fun ha hb => ?_, fun ha hb => ?_⟩
  · refine sm_done d hd h2 hc hs ?_
    have h1 := hr'.over (i + 1) (by rw [hl]; omega) (Pl.low1 s[i + 1]) (low_in ha.1 ha.2)
    rw [set_mid d _ i hd] at h1
    have h3 := h1.over (i + 2) (by simp [hd]) (Pl.low1 s[i + 2]) (low_in hb.1 hb.2)
    rwa [set_mid2 d _ i hd] at h3
  · refine sm_done d hd h2 hc hs ?_
    have h1 := hr'.over (i + 1) (by rw [hl]; omega) (Pl.low1 s[i + 1]) (low_in ha.1 ha.2)
    rw [set_mid d _ i hd] at h1
    rw [low_out hb]; exact h1
  · refine sm_done d hd h2 hc hs ?_
    have h1 := hr'.over (i + 2) (by rw [hl]; omega) (Pl.low1 s[i + 2]) (low_in hb.1 hb.2)
    rw [set_mid2 d _ i hd] at h1
    rw [low_out ha]; exact h1
  · refine sm_done d hd h2 hc hs ?_
    rw [low_out ha, low_out hb]; exact hr'
theorem small_tail (l : List UInt8) (h : l.length ≤ 2) : Pl.small l = l := by
  match l, h with
  | [], _ => exact Pl.small_nil
  | [a], _ =>
    by_cases e : a = 37
    · subst e; exact Pl.small_short0
    · rw [Pl.small_other a [] e, Pl.small_nil]
  | [a, b], _ =>
    by_cases e : a = 37
    · subst e; exact Pl.small_short1 b
    · rw [Pl.small_other a [b] e]
      by_cases f : b = 37
      · subst f; rw [Pl.small_short0]
      · rw [Pl.small_other b [] f, Pl.small_nil]
theorem sm_end {s : ByteArray} {w : World} {T i : Nat} (h : SmRel s w T i) (h2 : s.size ≤ i + 2) : RowS w T (Pl.small (bl s)) := by
  obtain ⟨d, hd, hr, hs⟩ := h
  rw [small_tail ((bl s).drop i) (by rw [List.length_drop, length_bl]; omega)] at hs
  rw [hs]; exact hr

set_option maxRecDepth 100000 in
set_option maxHeartbeats 2000000 in
theorem small_any (s : ByteArray) (w : World) (hs : s.size ≤ 4611686018427387904) :
    Calls Tryd.prog 19 #[.string s] w fun e w' => e = .returned (.string (mk (Pl.small (bl s)))) ∧ Below w.heap.size w w' := by
  obtain ⟨cap, w1, hconv, hrow, hb1⟩ := conv_rowS s w
  have HROW := Lib.hid hrow; clear hrow
  go_enter Tryd.func19, Tryd.ntmps19
  go_wp2_with fail
  clear hconv
  go_loopw [4] (fun i wr => ∃ k : Nat, k ≤ s.size ∧ i = .int .i64 k ∧ SmRel s wr w.heap.size k ∧ Below w.heap.size w wr) (fun i _ => s.size - (intOf i).toNat)
  case atStart => exact ⟨0, Nat.zero_le _, rfl, sm_start s w1 _ HROW.out, hb1⟩
  case round =>
    obtain ⟨k, hk, rfl, hrel, hbel⟩ := hrel
    have HR := Lib.hid hrel; clear hrel
    by_cases h2 : k + 2 < s.size
    · have c0 := (sm_read HR.out k (Nat.le_refl _) (by omega)).1
      by_cases h37 : s[k] = 37
      · have hc : ((s[k].toNat : Int) == 37) = true := by rw [h37]; rfl
        obtain ⟨c1, f1⟩ := sm_read HR.out (k + 1) (by omega) (by omega)
        obtain ⟨c2, f2⟩ := sm_read HR.out (k + 2) (by omega) (by omega)
        have HP := Lib.hid (sm_pct HR.out h2 h37)
        clear h37
        rcases (show s[k + 1].toNat < 65 ∨ (65 ≤ s[k + 1].toNat ∧ s[k + 1].toNat ≤ 70) ∨ 70 < s[k + 1].toNat by omega) with ha | ha | ha
        · rcases (show s[k + 2].toNat < 65 ∨ (65 ≤ s[k + 2].toNat ∧ s[k + 2].toNat ≤ 70) ∨ 70 < s[k + 2].toNat by omega) with hb | hb | hb
          · have A1 : decide ((65 : Int) ≤ (s[k + 1].toNat : Int)) = false := decide_eq_false (by omega)
            have B1 : decide ((65 : Int) ≤ (s[k + 2].toNat : Int)) = false := decide_eq_false (by omega)
            have HF := Lib.hid (HP.out.2.2.2 (by omega) (by omega))
            clear ha hb
            go_wp2_with fail
            refine wp_loop_rounds 3 ?_
            rw [rounds_succ]
            go_wp2_with fail
            rw [rounds_succ]
            go_wp2_with fail
            rw [rounds_succ]
            go_wp2_with fail
            go_roundw
            case rel => exact ⟨k + 3, by omega, by go_num, HF.out, hbel⟩
            case measure => simp [intOf]; omega
          · have A1 : decide ((65 : Int) ≤ (s[k + 1].toNat : Int)) = false := decide_eq_false (by omega)
            have B1 : decide ((65 : Int) ≤ (s[k + 2].toNat : Int)) = true := decide_eq_true (by omega)
            have B2 : decide ((s[k + 2].toNat : Int) ≤ 70) = true := decide_eq_true (by omega)
            have HF := Lib.hid (HP.out.2.2.1 (by omega) (by omega))
            clear ha hb
            go_wp2_with fail
            refine wp_loop_rounds 3 ?_
            rw [rounds_succ]
            go_wp2_with fail
            rw [rounds_succ]
            go_wp2_with fail
            rw [rounds_succ]
            go_wp2_with fail
            go_roundw
            case rel => exact ⟨k + 3, by omega, by go_num, HF.out, Below.setCell (p := ⟨w.heap.size, _, none⟩) hbel (Nat.le_refl _) _⟩
            case measure => simp [intOf]; omega
          · have A1 : decide ((65 : Int) ≤ (s[k + 1].toNat : Int)) = false := decide_eq_false (by omega)
            have B1 : decide ((65 : Int) ≤ (s[k + 2].toNat : Int)) = true := decide_eq_true (by omega)
            have B2 : decide ((s[k + 2].toNat : Int) ≤ 70) = false := decide_eq_false (by omega)
            have HF := Lib.hid (HP.out.2.2.2 (by omega) (by omega))
            clear ha hb
            go_wp2_with fail
            refine wp_loop_rounds 3 ?_
            rw [rounds_succ]
            go_wp2_with fail
            rw [rounds_succ]
            go_wp2_with fail
            rw [rounds_succ]
            go_wp2_with fail
            go_roundw
            case rel => exact ⟨k + 3, by omega, by go_num, HF.out, hbel⟩
            case measure => simp [intOf]; omega
        · rcases (show s[k + 2].toNat < 65 ∨ (65 ≤ s[k + 2].toNat ∧ s[k + 2].toNat ≤ 70) ∨ 70 < s[k + 2].toNat by omega) with hb | hb | hb
          · have A1 : decide ((65 : Int) ≤ (s[k + 1].toNat : Int)) = true := decide_eq_true (by omega)
            have A2 : decide ((s[k + 1].toNat : Int) ≤ 70) = true := decide_eq_true (by omega)
            have B1 : decide ((65 : Int) ≤ (s[k + 2].toNat : Int)) = false := decide_eq_false (by omega)
            have HF := Lib.hid (HP.out.2.1 (by omega) (by omega))
            clear ha hb
            go_wp2_with fail
            refine wp_loop_rounds 3 ?_
            rw [rounds_succ]
            go_wp2_with fail
            rw [rounds_succ]
            go_wp2_with fail
            rw [rounds_succ]
            go_wp2_with fail
            go_roundw
            case rel => exact ⟨k + 3, by omega, by go_num, HF.out, Below.setCell (p := ⟨w.heap.size, _, none⟩) hbel (Nat.le_refl _) _⟩
            case measure => simp [intOf]; omega
          · have A1 : decide ((65 : Int) ≤ (s[k + 1].toNat : Int)) = true := decide_eq_true (by omega)
            have A2 : decide ((s[k + 1].toNat : Int) ≤ 70) = true := decide_eq_true (by omega)
            have B1 : decide ((65 : Int) ≤ (s[k + 2].toNat : Int)) = true := decide_eq_true (by omega)
            have B2 : decide ((s[k + 2].toNat : Int) ≤ 70) = true := decide_eq_true (by omega)
            have HF := Lib.hid (HP.out.1 (by omega) (by omega))
            clear ha hb
            go_wp2_with fail
            refine wp_loop_rounds 3 ?_
            rw [rounds_succ]
            go_wp2_with fail
            rw [rounds_succ]
            go_wp2_with fail
            rw [rounds_succ]
            go_wp2_with fail
            go_roundw
            case rel => exact ⟨k + 3, by omega, by go_num, HF.out, Below.setCell (p := ⟨w.heap.size, _, none⟩) (Below.setCell (p := ⟨w.heap.size, _, none⟩) hbel (Nat.le_refl _) _) (Nat.le_refl _) _⟩
            case measure => simp [intOf]; omega
          · have A1 : decide ((65 : Int) ≤ (s[k + 1].toNat : Int)) = true := decide_eq_true (by omega)
            have A2 : decide ((s[k + 1].toNat : Int) ≤ 70) = true := decide_eq_true (by omega)
            have B1 : decide ((65 : Int) ≤ (s[k + 2].toNat : Int)) = true := decide_eq_true (by omega)
            have B2 : decide ((s[k + 2].toNat : Int) ≤ 70) = false := decide_eq_false (by omega)
            have HF := Lib.hid (HP.out.2.1 (by omega) (by omega))
            clear ha hb
            go_wp2_with fail
            refine wp_loop_rounds 3 ?_
            rw [rounds_succ]
            go_wp2_with fail
            rw [rounds_succ]
            go_wp2_with fail
            rw [rounds_succ]
            go_wp2_with fail
            go_roundw
            case rel => exact ⟨k + 3, by omega, by go_num, HF.out, Below.setCell (p := ⟨w.heap.size, _, none⟩) hbel (Nat.le_refl _) _⟩
            case measure => simp [intOf]; omega
        · rcases (show s[k + 2].toNat < 65 ∨ (65 ≤ s[k + 2].toNat ∧ s[k + 2].toNat ≤ 70) ∨ 70 < s[k + 2].toNat by omega) with hb | hb | hb
          · have A1 : decide ((65 : Int) ≤ (s[k + 1].toNat : Int)) = true := decide_eq_true (by omega)
            have A2 : decide ((s[k + 1].toNat : Int) ≤ 70) = false := decide_eq_false (by omega)
            have B1 : decide ((65 : Int) ≤ (s[k + 2].toNat : Int)) = false := decide_eq_false (by omega)
            have HF := Lib.hid (HP.out.2.2.2 (by omega) (by omega))
            clear ha hb
            go_wp2_with fail
            refine wp_loop_rounds 3 ?_
            rw [rounds_succ]
            go_wp2_with fail
            rw [rounds_succ]
            go_wp2_with fail
            rw [rounds_succ]
            go_wp2_with fail
            go_roundw
            case rel => exact ⟨k + 3, by omega, by go_num, HF.out, hbel⟩
            case measure => simp [intOf]; omega
          · have A1 : decide ((65 : Int) ≤ (s[k + 1].toNat : Int)) = true := decide_eq_true (by omega)
            have A2 : decide ((s[k + 1].toNat : Int) ≤ 70) = false := decide_eq_false (by omega)
            have B1 : decide ((65 : Int) ≤ (s[k + 2].toNat : Int)) = true := decide_eq_true (by omega)
            have B2 : decide ((s[k + 2].toNat : Int) ≤ 70) = true := decide_eq_true (by omega)
            have HF := Lib.hid (HP.out.2.2.1 (by omega) (by omega))
            clear ha hb
            go_wp2_with fail
            refine wp_loop_rounds 3 ?_
            rw [rounds_succ]
            go_wp2_with fail
            rw [rounds_succ]
            go_wp2_with fail
            rw [rounds_succ]
            go_wp2_with fail
            go_roundw
            case rel => exact ⟨k + 3, by omega, by go_num, HF.out, Below.setCell (p := ⟨w.heap.size, _, none⟩) hbel (Nat.le_refl _) _⟩
            case measure => simp [intOf]; omega
          · have A1 : decide ((65 : Int) ≤ (s[k + 1].toNat : Int)) = true := decide_eq_true (by omega)
            have A2 : decide ((s[k + 1].toNat : Int) ≤ 70) = false := decide_eq_false (by omega)
            have B1 : decide ((65 : Int) ≤ (s[k + 2].toNat : Int)) = true := decide_eq_true (by omega)
            have B2 : decide ((s[k + 2].toNat : Int) ≤ 70) = false := decide_eq_false (by omega)
            have HF := Lib.hid (HP.out.2.2.2 (by omega) (by omega))
            clear ha hb
            go_wp2_with fail
            refine wp_loop_rounds 3 ?_
            rw [rounds_succ]
            go_wp2_with fail
            rw [rounds_succ]
            go_wp2_with fail
            rw [rounds_succ]
            go_wp2_with fail
            go_roundw
            case rel => exact ⟨k + 3, by omega, by go_num, HF.out, hbel⟩
            case measure => simp [intOf]; omega
      · have hc : ((s[k].toNat : Int) == 37) = false := (byte_ne (b := 37)).2 h37
        have HF := Lib.hid (sm_skip HR.out (by omega) h37)
        clear h37
        go_wp2_with fail
        go_roundw
        case rel => exact ⟨k + 1, by omega, by go_num, HF.out, hbel⟩
        case measure => simp [intOf]; omega
    · have hback := conv_backS wr w.heap.size cap s.size (Pl.small (bl s)) (sm_end HR.out (by omega)) (by rw [Pl.small_length, length_bl])
      go_wp2_with fail
      go_ret
      exact ⟨rfl, hbel⟩
end Go.Proofs.YtjfgadnjdcopcaaDoor
