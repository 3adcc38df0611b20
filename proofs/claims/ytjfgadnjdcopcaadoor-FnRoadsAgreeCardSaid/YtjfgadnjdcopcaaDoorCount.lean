/-
  The contracts of laws.count and laws.within: how often a byte stands in a string; the world stays. Condition: the string is no longer than Go bears.
-/
import Derived.Test.YtjfgadnjdcopcaaDoorStr
namespace Go.Proofs.YtjfgadnjdcopcaaDoor
open Go.RowKit

theorem count_hit (s : ByteArray) (b : UInt8) (k : Nat) (h : k < s.size) (hb : ((s[k].toNat : Int) == (b.toNat : Int)) = true) : ((bl s).take (k + 1)).count b = ((bl s).take k).count b + 1 := by
  rw [bl_take s k h, List.count_append, byte_eq.1 hb]; simp
theorem count_miss (s : ByteArray) (b : UInt8) (k : Nat) (h : k < s.size) (hb : ((s[k].toNat : Int) == (b.toNat : Int)) = false) : ((bl s).take (k + 1)).count b = ((bl s).take k).count b := by
  rw [bl_take s k h, List.count_append, List.count_cons_of_ne (byte_ne.1 hb)]; simp
theorem count_le (s : ByteArray) (b : UInt8) (k : Nat) : ((bl s).take k).count b ≤ k := Nat.le_trans List.count_le_length (List.length_take_le _ _)

set_option maxHeartbeats 400000 in
theorem count_any (s : ByteArray) (b : UInt8) (w : World) (hs : s.size ≤ 9223372036854775807) :
    Calls Tryd.prog 20 #[.string s, .int .u8 b.toNat] w fun e w' => e = .returned (.int .i64 ((bl s).count b)) ∧ w = w' := by
  go_enter Tryd.func20, Tryd.ntmps20
  go_wp2
  go_loop [5, 6] (fun n i => ∃ k : Nat, k ≤ s.size ∧ i = .int .i64 k ∧ n = .int .i64 (((bl s).take k).count b)) (fun _ i => s.size - (intOf i).toNat)
  case atStart => exact ⟨0, Nat.zero_le _, rfl, rfl⟩
  case round =>
    obtain ⟨k, hk, rfl, rfl⟩ := hrel
    have hl := count_le s b k
    by_cases hlt : k < s.size
    · go_wp2
      all_goals
        go_round
        case rel => first | exact ⟨k + 1, by omega, by go_num, by rw [count_hit s b k hlt ‹_›]; go_num⟩ | exact ⟨k + 1, by omega, by go_num, by rw [count_miss s b k hlt ‹_›]⟩
        case measure => simp [intOf]; omega
    · go_wp2
      go_ret
      exact ⟨ret_int (by rw [bl_take_all s k (by omega)]), rfl⟩

set_option maxHeartbeats 400000 in
theorem within_any (b : UInt8) (s : ByteArray) (w : World) (hs : s.size ≤ 9223372036854775807) :
   Calls Tryd.prog 18 #[.int .u8 b.toNat, .string s] w fun e w' => e = .returned (.bool (Pl.isIn (bl s) b)) ∧ w = w' := by
 go_enter Tryd.func18, Tryd.ntmps18
 go_wp2_with (go_at_call 20; refine (count_any _ _ _ hs).mono ?_; rintro e w' ⟨rfl, rfl⟩)
 all_goals go_ret
 all_goals exact ⟨ret_bool (by unfold Pl.isIn; simp), rfl⟩
end Go.Proofs.YtjfgadnjdcopcaaDoor
