/-
  The contract of laws.consists: whether a string consists of unreserved bytes, those of more, and escapes; the world stays. Condition: the strings are no longer than 2^62 bytes.
-/
import Derived.Test.YtdddhhifdakfmaaDoorHexa
import Derived.Test.YtdddhhifdakfmaaDoorPlainB
import Derived.Test.YtdddhhifdakfmaaDoorCount
import Derived.Lib.Hide
namespace Go.Proofs.YtdddhhifdakfmaaDoor
open Go.RowKit
theorem b37 {c : UInt8} (h : c = 37) : ((c.toNat : Int) == 37) = true := by rw [h]; rfl
theorem n37 {c : UInt8} (h : c ≠ 37) : ((c.toNat : Int) == 37) = false := (byte_ne (b := 37)).2 h
theorem drop3 (s : ByteArray) (k : Nat) (h : k + 2 < s.size) : (bl s).drop k = s[k] :: s[k + 1] :: s[k + 2] :: (bl s).drop (k + 3) := by
  rw [bl_drop s k (by omega), bl_drop s (k + 1) (by omega), bl_drop s (k + 2) h]
theorem drop_short (s : ByteArray) (k : Nat) (h1 : k < s.size) (h2 : s.size ≤ k + 2) : (bl s).drop k = [s[k]] ∨ ∃ a, (bl s).drop k = [s[k], a] := by
  rw [bl_drop s k h1]
  by_cases h : s.size ≤ k + 1
  · exact Or.inl (by rw [bl_drop_all s (k + 1) h])
  · exact Or.inr ⟨s[k + 1], by rw [bl_drop s (k + 1) (by omega), bl_drop_all s (k + 2) h2]⟩

set_option maxHeartbeats 2000000 in
theorem consists_any (s more : ByteArray) (w : World) (hs : s.size ≤ 4611686018427387904) (hm : more.size ≤ 4611686018427387904) :
    Calls Tryd.prog 12 #[.string s, .string more] w fun e w' => e = .returned (.bool (Pl.cons (bl more) (bl s))) ∧ w = w' := by
  go_enter Tryd.func12, Tryd.ntmps12
  go_wp2
  go_loop [5] (fun i => ∃ k : Nat, k ≤ s.size ∧ i = .int .i64 k ∧ Pl.cons (bl more) ((bl s).drop k) = Pl.cons (bl more) (bl s)) (fun i => s.size - (intOf i).toNat)
  case atStart => exact ⟨0, Nat.zero_le _, rfl, rfl⟩
  case round =>
    obtain ⟨k, hk, rfl, hrel⟩ := hrel
    have HR := Lib.hid hrel; clear hrel
    by_cases hlt : k < s.size
    · by_cases h37 : s[k] = 37
      · have hc := b37 h37
        by_cases h2 : k + 2 < s.size
        · have hd : decide ((s.size : Int) ≤ (k : Int) + 2) = false := by simp; omega
          cases ha : Pl.hexB s[k + 1] with
          | false =>
            have HF := Lib.hid (show Pl.cons (bl more) (bl s) = false by rw [← HR.out, drop3 s k h2, h37]; exact Pl.cons_bad _ _ _ _ (by rw [ha]; rfl))
            clear h37
            go_wp2_with (go_at_call 18; refine (hexa_any _ _).mono ?_; rintro e w' ⟨rfl, rfl⟩)
            go_ret
            exact ⟨ret_bool HF.out.symm, rfl⟩
          | true =>
            cases hb : Pl.hexB s[k + 2] with
            | false =>
              have HF := Lib.hid (show Pl.cons (bl more) (bl s) = false by rw [← HR.out, drop3 s k h2, h37]; exact Pl.cons_bad _ _ _ _ (by rw [ha, hb]; rfl))
              clear h37
              go_wp2_with (go_at_call 18; refine (hexa_any _ _).mono ?_; rintro e w' ⟨rfl, rfl⟩)
              go_ret
              exact ⟨ret_bool HF.out.symm, rfl⟩
            | true =>
              have HF := Lib.hid (show Pl.cons (bl more) ((bl s).drop (k + 3)) = Pl.cons (bl more) (bl s) by rw [← HR.out, drop3 s k h2, h37]; exact (Pl.cons_hex _ _ _ _ (by rw [ha, hb]; rfl)).symm)
              clear h37
              go_wp2_with (go_at_call 18; refine (hexa_any _ _).mono ?_; rintro e w' ⟨rfl, rfl⟩)
              go_round
              case rel => exact ⟨k + 3, by omega, by go_num, HF.out⟩
              case measure => simp [intOf]; omega
        · have hd : decide ((s.size : Int) ≤ (k : Int) + 2) = true := by simp; omega
          have HF := Lib.hid (show Pl.cons (bl more) (bl s) = false by
            rw [← HR.out]
            rcases drop_short s k hlt (by omega) with h | ⟨a, h⟩
            · rw [h, h37]; exact Pl.cons_short0 _
            · rw [h, h37]; exact Pl.cons_short1 _ _)
          clear h37
          go_wp2_with (go_at_call 18; refine (hexa_any _ _).mono ?_; rintro e w' ⟨rfl, rfl⟩)
          go_ret
          exact ⟨ret_bool HF.out.symm, rfl⟩
      · have hc := n37 h37
        cases hu : Pl.unres s[k] with
        | true =>
          have HF := Lib.hid (show Pl.cons (bl more) ((bl s).drop (k + 1)) = Pl.cons (bl more) (bl s) by rw [← HR.out, bl_drop s k hlt]; exact (Pl.cons_ok _ _ _ h37 (by rw [hu]; rfl)).symm)
          clear h37
          go_wp2_with (go_at_call 15; refine (plain_any _ _).mono ?_; rintro e w' ⟨rfl, rfl⟩)
          go_round
          case rel => exact ⟨k + 1, by omega, by go_num, HF.out⟩
          case measure => simp [intOf]; omega
        | false =>
          cases hi : Pl.isIn (bl more) s[k] with
          | true =>
            have HF := Lib.hid (show Pl.cons (bl more) ((bl s).drop (k + 1)) = Pl.cons (bl more) (bl s) by rw [← HR.out, bl_drop s k hlt]; exact (Pl.cons_ok _ _ _ h37 (by rw [hu, hi]; rfl)).symm)
            clear h37
            go_wp2_with (first | (go_at_call 15; refine (plain_any _ _).mono ?_; rintro e w' ⟨rfl, rfl⟩) | (go_at_call 19; refine (within_any _ _ _ (by omega)).mono ?_; rintro e w' ⟨rfl, rfl⟩))
            go_round
            case rel => exact ⟨k + 1, by omega, by go_num, HF.out⟩
            case measure => simp [intOf]; omega
          | false =>
            have HF := Lib.hid (show Pl.cons (bl more) (bl s) = false by rw [← HR.out, bl_drop s k hlt]; exact Pl.cons_no _ _ _ h37 (by rw [hu, hi]; rfl))
            clear h37
            go_wp2_with (first | (go_at_call 15; refine (plain_any _ _).mono ?_; rintro e w' ⟨rfl, rfl⟩) | (go_at_call 19; refine (within_any _ _ _ (by omega)).mono ?_; rintro e w' ⟨rfl, rfl⟩))
            go_ret
            exact ⟨ret_bool HF.out.symm, rfl⟩
    · have HF := Lib.hid (show Pl.cons (bl more) (bl s) = true by rw [← HR.out, bl_drop_all s k (by omega)]; exact Pl.cons_nil _)
      go_wp2
      go_ret
      exact ⟨ret_bool HF.out.symm, rfl⟩
end Go.Proofs.YtdddhhifdakfmaaDoor
