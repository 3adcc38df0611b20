/-
  The contract of spec.value: what a hexadecimal digit stands for, 16 if it is none; the world stays. No condition.
-/
import Derived.Test.YtjfgadnjdcopcaaDoorStr
import Derived.Lib.Hide
import Derived.BigGuardPart
namespace Go.Proofs.YtjfgadnjdcopcaaDoor
open Go.RowKit
/-- what spec.value gives -/
def val (c : UInt8) : Nat := if Pl.hexB c then Pl.hv c else 16
theorem val_at (n : Nat) (h : n < 16) (c : UInt8) (hc : Pl.lowD.getD n 0 = c ∨ Pl.capD.getD n 0 = c) : n = val c := by
  have H : ∀ i : Fin 16, i.val = val (Pl.lowD.getD i.val 0) ∧ i.val = val (Pl.capD.getD i.val 0) := by decide +kernel
  rcases hc with rfl | rfl
  · exact (H ⟨n, h⟩).1
  · exact (H ⟨n, h⟩).2
theorem val_none : ∀ c : UInt8, (∀ i : Fin 16, Pl.lowD.getD i.val 0 ≠ c ∧ Pl.capD.getD i.val 0 ≠ c) → 16 = val c := Pl.forall_byte _ (by decide +kernel)
theorem low_val (n : Nat) (h : n < 16) (h' : n < (⟨#[48, 49, 50, 51, 52, 53, 54, 55, 56, 57, 97, 98, 99, 100, 101, 102]⟩ : ByteArray).size) :
    (⟨#[48, 49, 50, 51, 52, 53, 54, 55, 56, 57, 97, 98, 99, 100, 101, 102]⟩ : ByteArray)[n] = Pl.lowD.getD n 0 := by
  have H : ∀ i : Fin 16, (⟨#[48, 49, 50, 51, 52, 53, 54, 55, 56, 57, 97, 98, 99, 100, 101, 102]⟩ : ByteArray)[i.val]'(i.isLt) = Pl.lowD.getD i.val 0 := by decide +kernel
  exact H ⟨n, h⟩
theorem cap_val (n : Nat) (h : n < 16) (h' : n < (⟨#[48, 49, 50, 51, 52, 53, 54, 55, 56, 57, 65, 66, 67, 68, 69, 70]⟩ : ByteArray).size) :
    (⟨#[48, 49, 50, 51, 52, 53, 54, 55, 56, 57, 65, 66, 67, 68, 69, 70]⟩ : ByteArray)[n] = Pl.capD.getD n 0 := by
  have H : ∀ i : Fin 16, (⟨#[48, 49, 50, 51, 52, 53, 54, 55, 56, 57, 65, 66, 67, 68, 69, 70]⟩ : ByteArray)[i.val]'(i.isLt) = Pl.capD.getD i.val 0 := by decide +kernel
  exact H ⟨n, h⟩
set_option maxHeartbeats 1000000 in
theorem value_any (c : UInt8) (w : World) :
    Calls Tryd.prog 25 #[.int .u8 c.toNat] w fun e w' => e = .returned (.int .u8 (val c)) ∧ w = w' := by
  go_enter Tryd.func25, Tryd.ntmps25
  go_wp2
  go_loop [3] (fun i => ∃ k : Nat, k ≤ 16 ∧ i = .int .u8 k ∧ ∀ j, j < k → Pl.lowD.getD j 0 ≠ c ∧ Pl.capD.getD j 0 ≠ c) (fun i => 16 - (intOf i).toNat)
  case atStart => exact ⟨0, Nat.zero_le _, rfl, fun j hj => by omega⟩
  case round =>
    obtain ⟨k, hk, rfl, hall⟩ := hrel
    have HA := Lib.hid hall; clear hall
    by_cases hlt : k < 16
    · go_wp2
      · go_ret
        have e : ((⟨#[48, 49, 50, 51, 52, 53, 54, 55, 56, 57, 97, 98, 99, 100, 101, 102]⟩ : ByteArray)[k].toNat : Int) = (c.toNat : Int) := by assumption
        exact ⟨ret_int (by have := val_at k hlt c (Or.inl (by rw [← low_val k hlt hlt]; exact UInt8.toNat_inj.1 (by omega))); omega), rfl⟩
      · go_ret
        have e : (((⟨#[48, 49, 50, 51, 52, 53, 54, 55, 56, 57, 65, 66, 67, 68, 69, 70]⟩ : ByteArray)[k].toNat : Int) == (c.toNat : Int)) = true := by assumption
        exact ⟨ret_int (by have := val_at k hlt c (Or.inr (by rw [← cap_val k hlt hlt]; exact byte_eq.1 e)); omega), rfl⟩
      · have e1 : ¬ ((⟨#[48, 49, 50, 51, 52, 53, 54, 55, 56, 57, 97, 98, 99, 100, 101, 102]⟩ : ByteArray)[k].toNat : Int) = (c.toNat : Int) := by assumption
        have e2 : (((⟨#[48, 49, 50, 51, 52, 53, 54, 55, 56, 57, 65, 66, 67, 68, 69, 70]⟩ : ByteArray)[k].toNat : Int) == (c.toNat : Int)) = false := by assumption
        have HN := Lib.hid (show ∀ j, j < k + 1 → Pl.lowD.getD j 0 ≠ c ∧ Pl.capD.getD j 0 ≠ c from fun j hj => by
          by_cases hjk : j < k
          · exact HA.out j hjk
          · obtain rfl : j = k := by omega
            exact ⟨fun h => e1 (by rw [low_val j hlt hlt, h]), fun h => byte_ne.1 e2 (by rw [cap_val j hlt hlt, h])⟩)
        clear e1 e2
        go_round
        case rel => exact ⟨k + 1, by omega, by go_num, HN.out⟩
        case measure => simp [intOf]; omega
    · go_wp2
      go_ret
      exact ⟨ret_int (by have := val_none c (fun i => HA.out i.val (by omega)); omega), rfl⟩
end Go.Proofs.YtjfgadnjdcopcaaDoor
