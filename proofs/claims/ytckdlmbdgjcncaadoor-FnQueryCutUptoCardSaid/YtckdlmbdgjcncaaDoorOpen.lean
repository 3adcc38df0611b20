/-
  The contract of laws.open: whether a string ends within what could be an escape; the world stays. Condition: the string is no longer than 2^62 bytes.
-/
import Derived.Test.YtckdlmbdgjcncaaDoorPlainU
import Derived.Test.YtckdlmbdgjcncaaDoorStr
import Derived.Lib.Hide
import Derived.BigGuardPart
namespace Go.Proofs.YtckdlmbdgjcncaaDoor
open Go.RowKit
theorem open_cons (x : UInt8) (l : List UInt8) (h : 2 ≤ l.length) : Pl.openB (x :: l) = Pl.openB l := by
  match l, h with
  | a :: b :: r, _ => rfl
theorem open_two (p : List UInt8) (a b : UInt8) : Pl.openB (p ++ [a, b]) = (a == 37 || b == 37) := by
  induction p with
  | nil => rfl
  | cons x p ih => rw [List.cons_append, open_cons _ _ (by simp), ih]
theorem open_str (s : ByteArray) (n : Nat) (hn : s.size = n + 2) : Pl.openB (bl s) = (s[n] == 37 || s[n + 1] == 37) := by
  have e : bl s = (bl s).take n ++ [s[n], s[n + 1]] := by
    conv => lhs; rw [← List.take_append_drop n (bl s)]
    rw [bl_drop s n (by omega), bl_drop s (n + 1) (by omega), bl_drop_all s (n + 1 + 1) (by omega)]
  rw [e, open_two]
set_option maxHeartbeats 1000000 in
theorem open_any (s : ByteArray) (w : World) (hs : s.size ≤ 4611686018427387904) :
    Calls Tryd.prog 17 #[.string s] w fun e w' => e = .returned (.bool (Pl.openB (bl s))) ∧ w = w' := by
  rcases Nat.lt_or_ge s.size 1 with h0 | h1
  · have hd : decide ((0 : Int) < (s.size : Int)) = false := decide_eq_false (by omega)
    have hd2 : decide ((1 : Int) < (s.size : Int)) = false := decide_eq_false (by omega)
    have HF := Lib.hid (show Pl.openB (bl s) = false by
      have : bl s = [] := List.length_eq_zero_iff.1 (by rw [length_bl]; omega)
      rw [this]; rfl)
    go_enter Tryd.func17, Tryd.ntmps17
    go_wp2
    go_ret
    exact ⟨ret_bool HF.out.symm, rfl⟩
  · have hd : decide ((0 : Int) < (s.size : Int)) = true := decide_eq_true (by omega)
    rcases Nat.lt_or_ge s.size 2 with h2 | h2
    · have hd2 : decide ((1 : Int) < (s.size : Int)) = false := decide_eq_false (by omega)
      have HF := Lib.hid (show Pl.openB (bl s) = (s[s.size - 1] == 37) by
        have e : bl s = [s[s.size - 1]] := by
          have h3 : s.size - 1 = 0 := by omega
          have := bl_drop s 0 (by omega)
          rw [List.drop_zero, bl_drop_all s (0 + 1) (by omega)] at this
          rw [this]; congr 1; simp only [h3]
        rw [e]; rfl)
      by_cases hc : s[s.size - 1] = 37
      · have hb : ((s[s.size - 1].toNat : Int) == 37) = true := by rw [hc]; rfl
        have HV := Lib.hid (show Pl.openB (bl s) = true by rw [HF.out, hc]; rfl)
        clear hc
        go_enter Tryd.func17, Tryd.ntmps17
        go_wp2
        go_ret
        exact ⟨ret_bool HV.out.symm, rfl⟩
      · have hb : ((s[s.size - 1].toNat : Int) == 37) = false := (byte_ne (b := 37)).2 hc
        have HV := Lib.hid (show Pl.openB (bl s) = false by rw [HF.out]; simpa using hc)
        clear hc
        go_enter Tryd.func17, Tryd.ntmps17
        go_wp2
        go_ret
        exact ⟨ret_bool HV.out.symm, rfl⟩
    · have hd2 : decide ((1 : Int) < (s.size : Int)) = true := decide_eq_true (by omega)
      have HF := Lib.hid (show Pl.openB (bl s) = (s[s.size - 2] == 37 || s[s.size - 1] == 37) by
        rw [open_str s (s.size - 2) (by omega)]
        have h3 : s.size - 2 + 1 = s.size - 1 := by omega
        simp only [h3])
      by_cases hc : s[s.size - 1] = 37
      · have hb : ((s[s.size - 1].toNat : Int) == 37) = true := by rw [hc]; rfl
        have HV := Lib.hid (show Pl.openB (bl s) = true by rw [HF.out, hc]; simp)
        clear hc
        go_enter Tryd.func17, Tryd.ntmps17
        go_wp2
        go_ret
        exact ⟨ret_bool HV.out.symm, rfl⟩
      · have hb : ((s[s.size - 1].toNat : Int) == 37) = false := (byte_ne (b := 37)).2 hc
        by_cases hc2 : s[s.size - 2] = 37
        · have hb2 : ((s[s.size - 2].toNat : Int) == 37) = true := by rw [hc2]; rfl
          have HV := Lib.hid (show Pl.openB (bl s) = true by rw [HF.out, hc2]; rfl)
          clear hc hc2
          go_enter Tryd.func17, Tryd.ntmps17
          go_wp2
          go_ret
          exact ⟨ret_bool HV.out.symm, rfl⟩
        · have hb2 : ((s[s.size - 2].toNat : Int) == 37) = false := (byte_ne (b := 37)).2 hc2
          have HV := Lib.hid (show Pl.openB (bl s) = false by rw [HF.out]; simp [hc, hc2])
          clear hc hc2
          go_enter Tryd.func17, Tryd.ntmps17
          go_wp2
          go_ret
          exact ⟨ret_bool HV.out.symm, rfl⟩
end Go.Proofs.YtckdlmbdgjcncaaDoor
