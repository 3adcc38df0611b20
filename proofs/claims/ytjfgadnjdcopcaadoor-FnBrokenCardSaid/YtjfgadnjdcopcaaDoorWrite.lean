/-
  The contracts of laws.write and spec.swap: a text in place of each byte of one kind; the world stays. Condition: string and result are no longer than Go bears.
-/
import Derived.Test.YtjfgadnjdcopcaaDoorStr
namespace Go.Proofs.YtjfgadnjdcopcaaDoor
open Go.RowKit
theorem wr_hit (s : ByteArray) (b : UInt8) (to : ByteArray) (k : Nat) (h : k < s.size) (hb : ((s[k].toNat : Int) == (b.toNat : Int)) = true) : mk (Pl.wr ((bl s).take k) b (bl to)) ++ to = mk (Pl.wr ((bl s).take (k + 1)) b (bl to)) := by
  rw [mk_append, bl_take s k h]; unfold Pl.wr; rw [List.flatMap_append]; simp [Pl.wf, byte_eq.1 hb]
theorem wr_miss (s : ByteArray) (b : UInt8) (to : ByteArray) (k : Nat) (h : k < s.size) (hb : ((s[k].toNat : Int) == (b.toNat : Int)) = false) : mk (Pl.wr ((bl s).take k) b (bl to)) ++ s.extract k (k + 1) = mk (Pl.wr ((bl s).take (k + 1)) b (bl to)) := by
  rw [mk_append, bl_one s k h, bl_take s k h]; unfold Pl.wr; rw [List.flatMap_append]; simp [Pl.wf, byte_ne.1 hb]
theorem wr_le (s : ByteArray) (b : UInt8) (to : ByteArray) (k : Nat) : (mk (Pl.wr ((bl s).take k) b (bl to))).size ≤ (Pl.wr (bl s) b (bl to)).length := by
  rw [size_mk]; conv => rhs; rw [← List.take_append_drop k (bl s)]
  unfold Pl.wr; rw [List.flatMap_append, List.length_append]; omega

set_option maxHeartbeats 400000 in
theorem write_any (s : ByteArray) (b : UInt8) (to : ByteArray) (w : World) (hs : s.size ≤ 4611686018427387904) (ht : to.size ≤ 16) (hr : (Pl.wr (bl s) b (bl to)).length ≤ 4611686018427387904) :
   Calls Tryd.prog 16 #[.string s, .int .u8 b.toNat, .string to] w fun e w' => e = .returned (.string (mk (Pl.wr (bl s) b (bl to)))) ∧ w = w' := by
 go_enter Tryd.func16, Tryd.ntmps16
 go_wp2
 go_loop [7, 8] (fun o i => ∃ k : Nat, k ≤ s.size ∧ i = .int .i64 k ∧ o = .string (mk (Pl.wr ((bl s).take k) b (bl to)))) (fun _ i => s.size - (intOf i).toNat)
 case atStart => exact ⟨0, Nat.zero_le _, rfl, rfl⟩
 case round =>
   obtain ⟨k, hk, rfl, rfl⟩ := hrel
   have hl := wr_le s b to k
   by_cases hlt : k < s.size
   · go_wp2
     all_goals
       go_round
       case rel => first | exact ⟨k + 1, by omega, by go_num, by rw [wr_hit s b to k hlt ‹_›]⟩ | exact ⟨k + 1, by omega, by go_num, by rw [wr_miss s b to k hlt ‹_›]⟩
       case measure => simp [intOf]; omega
   · go_wp2
     go_ret
     exact ⟨ret_str (by rw [bl_take_all s k (by omega)]), rfl⟩
set_option maxHeartbeats 400000 in
theorem swap_any (s : ByteArray) (b : UInt8) (to : ByteArray) (w : World) (hs : s.size ≤ 4611686018427387904) (ht : to.size ≤ 16) (hr : (Pl.wr (bl s) b (bl to)).length ≤ 4611686018427387904) :
   Calls Tryd.prog 24 #[.string s, .int .u8 b.toNat, .string to] w fun e w' => e = .returned (.string (mk (Pl.wr (bl s) b (bl to)))) ∧ w = w' := by
 go_enter Tryd.func24, Tryd.ntmps24
 go_wp2
 go_loop [7, 8] (fun o i => ∃ k : Nat, k ≤ s.size ∧ i = .int .i64 k ∧ o = .string (mk (Pl.wr ((bl s).take k) b (bl to)))) (fun _ i => s.size - (intOf i).toNat)
 case atStart => exact ⟨0, Nat.zero_le _, rfl, rfl⟩
 case round =>
   obtain ⟨k, hk, rfl, rfl⟩ := hrel
   have hl := wr_le s b to k
   by_cases hlt : k < s.size
   · go_wp2
     all_goals
       go_round
       case rel => first | exact ⟨k + 1, by omega, by go_num, by rw [wr_hit s b to k hlt ‹_›]⟩ | exact ⟨k + 1, by omega, by go_num, by rw [wr_miss s b to k hlt ‹_›]⟩
       case measure => simp [intOf]; omega
   · go_wp2
     go_ret
     exact ⟨ret_str (by rw [bl_take_all s k (by omega)]), rfl⟩
end Go.Proofs.YtjfgadnjdcopcaaDoor
