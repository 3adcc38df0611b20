/-
  The contract of laws.every: every byte of a string as an escape, its digits out of two rows of sixteen; what was there stays. Condition: the string is no longer than 2^50 bytes.
-/
import Derived.Test.YtjfgadnjdcopcaaDoorPlainU
import Derived.Test.YtjfgadnjdcopcaaDoorStr
import Derived.Lib.Hide
import Derived.Deep.QuietTactic
import Derived.BigQuiet
import Derived.WalkSmall
namespace Go.Proofs.YtjfgadnjdcopcaaDoor
open Go.RowKit
theorem and15e : ∀ c : UInt8, bits BinOp.and IntKind.u8 (c.toNat : Int) 15 = (c.toNat : Int) % 16 := Pl.forall_byte _ (by decide +kernel)
/-- a row's digit as a string -/
def dgAt (h : ByteArray) (n : Nat) : ByteArray := (h.extract n h.size).extract 0 1
theorem bl_dgAt (h : ByteArray) (n : Nat) (hn : n < h.size) : bl (dgAt h n) = [(bl h).getD n 0] := by
  have e : dgAt h n = h.extract n (n + 1) := by
    unfold dgAt
    have h1 : bl ((h.extract n h.size).extract 0 1) = bl (h.extract n (n + 1)) := by
      have hs : 0 < (h.extract n h.size).size := by rw [ByteArray.size_extract]; omega
      have := bl_one (h.extract n h.size) 0 hs
      rw [show (0 : Nat) + 1 = 1 from rfl] at this
      rw [this, bl_one h n hn, ByteArray.getElem_extract]
      simp
    rw [← mk_bl ((h.extract n h.size).extract 0 1), h1, mk_bl]
  rw [e, bl_one h n hn, List.getD_eq_getElem?_getD, List.getElem?_eq_getElem (by rw [length_bl]; exact hn), Option.getD_some, bl_get h n hn]
theorem dgAt_size (h : ByteArray) (n : Nat) (hn : n < h.size) : (dgAt h n).size = 1 := by rw [← length_bl, bl_dgAt h n hn]; rfl
theorem every_step (s hi lo : ByteArray) (k : Nat) (h : k < s.size) (hh : hi.size = 16) (hl : lo.size = 16) :
    mk (Pl.every (bl hi) (bl lo) ((bl s).take k)) ++ (⟨#[37]⟩ : ByteArray) ++ dgAt hi (s[k].toNat / 16) ++ dgAt lo (s[k].toNat % 16) = mk (Pl.every (bl hi) (bl lo) ((bl s).take (k + 1))) := by
  have h2 := UInt8.toNat_lt s[k]
  rw [mk_append, mk_append, mk_append, bl_dgAt hi _ (by omega), bl_dgAt lo _ (by omega), bl_take s k h]
  unfold Pl.every; rw [List.flatMap_append]; simp [Pl.pct, bl]
theorem every_take (hi lo : List UInt8) (s : ByteArray) (k : Nat) (hk : k ≤ s.size) : (mk (Pl.every hi lo ((bl s).take k))).size ≤ 3 * k := by
  rw [size_mk, Pl.every_length, List.length_take, length_bl]; omega

theorem slice_from {s : ByteArray} {n : Nat} {z : Int} (hz : z = n) (h : n ≤ s.size) (W : World) :
    (Instr.slice 9 (.string s) (some (.int .u8 z)) none none).run Tryd.prog W = .ok (.string (s.extract n s.size)) W := by
  subst hz
  simp [Instr.slice, run_underlying Tryd.underlying9, Instr.sliceBounds, run_sliceBound, h]
theorem slice_one {s : ByteArray} {n : Nat} (h : n < s.size) (W : World) :
    (Instr.slice 9 (.string (s.extract n s.size)) none (some (.int .i64 1)) none).run Tryd.prog W = .ok (.string (dgAt s n)) W := by
  have hb := run_sliceBound (P := Tryd.prog) W .i64 1 (s.size - n) .sliceAlen (by omega) (by omega)
  simp [Instr.slice, run_underlying Tryd.underlying9, Instr.sliceBounds, hb, dgAt]

set_option maxHeartbeats 1000000 in
theorem every_any (s hi lo : ByteArray) (w : World) (hs : s.size ≤ 1125899906842624) (hh : hi.size = 16) (hl : lo.size = 16) :
    Calls Tryd.prog 15 #[.string s, .string hi, .string lo] w fun e w' => e = .returned (.string (mk (Pl.every (bl hi) (bl lo) (bl s)))) ∧ Below w.heap.size w w' := by
  have HH := Lib.hid hh; clear hh
  have HL := Lib.hid hl; clear hl
  go_enter Tryd.func15, Tryd.ntmps15
  go_wp2
  go_loopw [7, 8] (fun o i wr => ∃ k : Nat, k ≤ s.size ∧ i = .int .i64 k ∧ o = .string (mk (Pl.every (bl hi) (bl lo) ((bl s).take k))) ∧ Below w.heap.size w wr) (fun _ i _ => s.size - (intOf i).toNat)
  case atStart => exact ⟨0, Nat.zero_le _, rfl, rfl, Below.refl _ _⟩
  case round =>
    obtain ⟨k, hk, rfl, rfl, hb⟩ := hrel
    have hz := every_take (bl hi) (bl lo) s k hk
    by_cases hlt : k < s.size
    · have H := Lib.hid (every_step s hi lo k hlt HH.out HL.out)
      have h15 := and15e s[k]
      have hcl := UInt8.toNat_lt s[k]
      have d1 := dgAt_size hi (s[k].toNat / 16) (by rw [HH.out]; omega)
      have d2 := dgAt_size lo (s[k].toNat % 16) (by rw [HL.out]; omega)
      have D1 := Lib.hid d1; clear d1
      have D2 := Lib.hid d2; clear d2
      have sl1 := fun (W : World) => slice_from (s := hi) (n := s[k].toNat / 16) (z := (s[k].toNat : Int) / 16) (by omega) (by rw [HH.out]; omega) W
      have sl2 := fun (W : World) => slice_one (s := hi) (n := s[k].toNat / 16) (by rw [HH.out]; omega) W
      have sl3 := fun (W : World) => slice_from (s := lo) (n := s[k].toNat % 16) (z := (s[k].toNat : Int) % 16) (by omega) (by rw [HL.out]; omega) W
      have sl4 := fun (W : World) => slice_one (s := lo) (n := s[k].toNat % 16) (by rw [HL.out]; omega) W
      have q1 := fun (W : World) => run_string_add_sum (P := Tryd.prog) W (mk (Pl.every (bl hi) (bl lo) ((bl s).take k))) ⟨#[37]⟩ (by show _ + 1 ≤ _; omega)
      have q2 := fun (W : World) => run_string_add_sum (P := Tryd.prog) W (mk (Pl.every (bl hi) (bl lo) ((bl s).take k)) ++ ⟨#[37]⟩) (dgAt hi (s[k].toNat / 16)) (by rw [ByteArray.size_append, D1.out]; show _ + 1 + 1 ≤ _; omega)
      have q3 := fun (W : World) => run_string_add_sum (P := Tryd.prog) W (mk (Pl.every (bl hi) (bl lo) ((bl s).take k)) ++ ⟨#[37]⟩ ++ dgAt hi (s[k].toNat / 16)) (dgAt lo (s[k].toNat % 16)) (by rw [ByteArray.size_append, ByteArray.size_append, D1.out, D2.out]; show _ + 1 + 1 + 1 ≤ _; omega)
      go_wp2_with fail
      go_quiet (fail)
      clear q1 q2 q3 sl1 sl2 sl3 sl4 h15
      go_wp2
      go_roundw
      case rel => exact ⟨k + 1, by omega, by go_num, by rw [H.out], below_drewN hb _⟩
      case measure => simp [intOf]; omega
    · go_wp2
      go_ret
      exact ⟨ret_str (by rw [bl_take_all s k (by omega)]), hb⟩
end Go.Proofs.YtjfgadnjdcopcaaDoor
