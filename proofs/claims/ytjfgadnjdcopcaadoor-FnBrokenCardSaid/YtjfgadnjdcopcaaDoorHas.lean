/-
  The contracts of spec.has (whether a byte stands in a string) and spec.digit (the digit of a number below 16, as a string); the world stays. Conditions: the string is no longer than Go bears; the number is below 16.
-/
import Derived.Test.YtjfgadnjdcopcaaDoorStr
import Derived.Lib.Hide
namespace Go.Proofs.YtjfgadnjdcopcaaDoor
open Go.RowKit
theorem has_yes (s : ByteArray) (b : UInt8) (k : Nat) (h : k < s.size) (hb : ((s[k].toNat : Int) == (b.toNat : Int)) = true) : Pl.isIn (bl s) b = true := by
  have h1 : b ∈ bl s := by rw [← byte_eq.1 hb, ← bl_get s k h]; exact List.getElem_mem _
  unfold Pl.isIn; simpa using h1
theorem has_step (s : ByteArray) (b : UInt8) (k : Nat) (h : k < s.size) (hb : ((s[k].toNat : Int) == (b.toNat : Int)) = false) (h0 : ((bl s).take k).count b = 0) : ((bl s).take (k + 1)).count b = 0 := by
  rw [bl_take s k h, List.count_append, List.count_cons_of_ne (byte_ne.1 hb), h0]; simp

set_option maxHeartbeats 400000 in
theorem has_any (s : ByteArray) (b : UInt8) (w : World) (hs : s.size ≤ 9223372036854775807) :
    Calls Tryd.prog 28 #[.string s, .int .u8 b.toNat] w fun e w' => e = .returned (.bool (Pl.isIn (bl s) b)) ∧ w = w' := by
  go_enter Tryd.func28, Tryd.ntmps28
  go_wp2
  go_loop [5] (fun i => ∃ k : Nat, k ≤ s.size ∧ i = .int .i64 k ∧ ((bl s).take k).count b = 0) (fun i => s.size - (intOf i).toNat)
  case atStart => exact ⟨0, Nat.zero_le _, rfl, rfl⟩
  case round =>
    obtain ⟨k, hk, rfl, h0⟩ := hrel
    have H0 := Lib.hid h0; clear h0
    by_cases hlt : k < s.size
    · go_wp2
      · go_ret
        exact ⟨ret_bool (has_yes s b k hlt ‹_›).symm, rfl⟩
      · go_round
        case rel => exact ⟨k + 1, by omega, by go_num, has_step s b k hlt ‹_› H0.out⟩
        case measure => simp [intOf]; omega
    · go_wp2
      go_ret
      exact ⟨ret_bool (by have := H0.out; rw [bl_take_all s k (by omega)] at this; unfold Pl.isIn; rw [this]; rfl), rfl⟩

def digitsBA : ByteArray := ⟨#[48, 49, 50, 51, 52, 53, 54, 55, 56, 57, 65, 66, 67, 68, 69, 70]⟩
theorem digit_at (n : Nat) (h : n < 16) : digitsBA.extract n (n + 1) = mk [Pl.capD.getD n 0] := by
  have H : ∀ i : Fin 16, digitsBA.extract i.val (i.val + 1) = mk [Pl.capD.getD i.val 0] := by decide +kernel
  exact H ⟨n, h⟩
/-- the digit as a string -/
def dg (z : Int) : ByteArray := mk [Pl.capD.getD z.toNat 0]
theorem dg_size (z : Int) : (dg z).size = 1 := size_mk _
theorem bl_dg (n : Nat) (z : Int) (h : z = n) : bl (dg z) = [Pl.capD.getD n 0] := by subst h; exact bl_mk _
theorem and15 : ∀ c : UInt8, bits BinOp.and IntKind.u8 (c.toNat : Int) 15 = (c.toNat : Int) % 16 := Pl.forall_byte _ (by decide +kernel)
set_option maxHeartbeats 400000 in
theorem digit_any (n : Int) (w : World) (h0 : 0 ≤ n) (h : n < 16) :
    Calls Tryd.prog 29 #[.int .u8 n] w fun e w' => e = .returned (.string (dg n)) ∧ w = w' := by
  obtain ⟨m, rfl⟩ := Int.eq_ofNat_of_zero_le h0
  have H := Lib.hid ((digit_at m (by omega)).trans (show mk [Pl.capD.getD m 0] = dg m from rfl))
  go_enter Tryd.func29, Tryd.ntmps29
  go_wp2
  go_ret
  exact ⟨ret_str H.out, rfl⟩
end Go.Proofs.YtjfgadnjdcopcaaDoor
