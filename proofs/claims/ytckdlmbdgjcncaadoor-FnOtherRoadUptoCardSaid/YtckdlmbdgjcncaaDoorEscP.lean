/-
  What net/url's escape counts and writes, byte by byte, in both modes at once. No condition.
-/
import Derived.Test.YtckdlmbdgjcncaaDoorMem
import Derived.Test.YtckdlmbdgjcncaaDoorShould
import Derived.Test.YtckdlmbdgjcncaaDoorMode
namespace Go.Proofs.YtckdlmbdgjcncaaDoor
open Go.RowKit
def spB (q : Bool) (l : List UInt8) : Nat := if q then l.count 32 else 0
def EB (q : Bool) (l : List UInt8) : List UInt8 := if q then Pl.queryE l else Pl.pathE l
def fB (q : Bool) (c : UInt8) : List UInt8 := if q then Pl.qf c else Pl.pf c
theorem EB_flat (q : Bool) (l : List UInt8) : EB q l = l.flatMap (fB q) := by cases q <;> rfl
theorem EB_snoc (q : Bool) (l : List UInt8) (c : UInt8) : EB q (l ++ [c]) = EB q l ++ fB q c := by rw [EB_flat, EB_flat, List.flatMap_append]; simp
def hxB (q : Bool) (l : List UInt8) : Nat := (EB q l).count 37
theorem EB_len (q : Bool) (l : List UInt8) : (EB q l).length = l.length + 2 * hxB q l := by
  cases q
  · exact Pl.pathE_length l
  · exact Pl.queryE_length l
theorem hx_le (q : Bool) (l : List UInt8) : hxB q l ≤ l.length := by
  have h1 : (EB q l).length ≤ 3 * l.length := by
    cases q
    · exact Pl.pathE_le l
    · exact Pl.queryE_le l
  have := EB_len q l; omega
theorem sp_le (q : Bool) (l : List UInt8) : spB q l ≤ l.length := by
  unfold spB; split
  · exact List.count_le_length
  · omega
/-- the three kinds of bytes -/
theorem f_no : ∀ (q : Bool) (c : UInt8), seB (mv q) c = false → fB q c = [c] ∧ c ≠ 37 ∧ (q = true → c ≠ 32) := by
  intro q; cases q
  · exact Pl.forall_byte _ (by decide +kernel)
  · exact Pl.forall_byte _ (by decide +kernel)
theorem f_sp : fB true 32 = [43] ∧ seB (mv true) 32 = true := by decide +kernel
theorem f_hx : ∀ (q : Bool) (c : UInt8), seB (mv q) c = true → (q && c == 32) = false → fB q c = Pl.pct Pl.capD Pl.capD c ∧ (q = true → c ≠ 32) ∧ (Pl.pct Pl.capD Pl.capD c).count 37 = 1 := by
  intro q; cases q
  · exact Pl.forall_byte _ (by decide +kernel)
  · exact Pl.forall_byte _ (by decide +kernel)
theorem step_no (q : Bool) (s : ByteArray) (k : Nat) (h : k < s.size) (hn : seB (mv q) s[k] = false) : spB q ((bl s).take (k + 1)) = spB q ((bl s).take k) ∧ hxB q ((bl s).take (k + 1)) = hxB q ((bl s).take k) := by
  obtain ⟨h1, h2, h3⟩ := f_no q _ hn
  rw [bl_take s k h]; unfold hxB; rw [EB_snoc, h1]
  refine ⟨?_, by rw [List.count_append, List.count_cons_of_ne h2]; simp⟩
  unfold spB; split
  · rename_i hq; rw [List.count_append, List.count_cons_of_ne (h3 hq)]; simp
  · rfl
theorem step_sp (s : ByteArray) (k : Nat) (h : k < s.size) (hn : s[k] = 32) : spB true ((bl s).take (k + 1)) = spB true ((bl s).take k) + 1 ∧ hxB true ((bl s).take (k + 1)) = hxB true ((bl s).take k) := by
  rw [bl_take s k h, hn]; unfold hxB; rw [EB_snoc, f_sp.1]
  refine ⟨?_, by rw [List.count_append]; rfl⟩
  unfold spB; simp
theorem step_hx (q : Bool) (s : ByteArray) (k : Nat) (h : k < s.size) (hn : seB (mv q) s[k] = true) (h2 : (q && s[k] == 32) = false) : spB q ((bl s).take (k + 1)) = spB q ((bl s).take k) ∧ hxB q ((bl s).take (k + 1)) = hxB q ((bl s).take k) + 1 := by
  obtain ⟨h1, h3, h4⟩ := f_hx q _ hn h2
  rw [bl_take s k h]; unfold hxB; rw [EB_snoc, h1]
  refine ⟨?_, by rw [List.count_append, h4]⟩
  unfold spB; split
  · rename_i hq; rw [List.count_append, List.count_cons_of_ne (h3 hq)]; simp
  · rfl
theorem EB_self (q : Bool) (l : List UInt8) (h1 : spB q l = 0) (h2 : hxB q l = 0) : EB q l = l := by
  rw [EB_flat]
  refine Pl.flat_one l (fun c hc => ?_)
  have h3 : (fB q c).count 37 = 0 := by
    unfold hxB at h2; rw [EB_flat] at h2
    have := List.count_eq_zero.1 h2
    exact List.count_eq_zero.2 (fun hm => this (List.mem_flatMap.2 ⟨c, hc, hm⟩))
  have h4 : q = true → c ≠ 32 := by
    intro hq e
    unfold spB at h1; rw [if_pos hq] at h1
    exact List.count_eq_zero.1 h1 (e ▸ hc)
  cases hse : seB (mv q) c with
  | false => exact (f_no q c hse).1
  | true =>
    have h5 : (q && c == 32) = false := by
      cases q
      · rfl
      · simpa using h4 rfl
    obtain ⟨e1, _, e2⟩ := f_hx q c hse h5
    rw [e1, e2] at h3
    cases h3
theorem TabAt.grown {w w' : World} {T : Nat} (h : TabAt w) (hg : w.grownBy w' (some T)) (hT : 0 < T) : TabAt w' := fun i hi => hg.cell (h i hi) (by simp; omega)
theorem EB_take (q : Bool) (s : ByteArray) (k : Nat) (h : k < s.size) : EB q ((bl s).take (k + 1)) = EB q ((bl s).take k) ++ fB q s[k] := by rw [bl_take s k h, EB_snoc]
theorem EB_room (q : Bool) (s : ByteArray) (k : Nat) (h : k < s.size) : (EB q ((bl s).take k)).length + (fB q s[k]).length ≤ (EB q (bl s)).length := by
  have e : EB q (bl s) = EB q ((bl s).take (k + 1)) ++ EB q ((bl s).drop (k + 1)) := by
    conv => lhs; rw [← List.take_append_drop (k + 1) (bl s)]
    rw [EB_flat, EB_flat, EB_flat, List.flatMap_append]
  rw [e, EB_take q s k h, List.length_append, List.length_append]; omega
/-- the way without escapes: spaces are written as plus signs in place -/
def L2 (l : List UInt8) (k : Nat) : List UInt8 := Pl.wr (l.take k) 32 [43] ++ l.drop k
theorem wr1_length (l : List UInt8) : (Pl.wr l 32 [43]).length = l.length := by
  unfold Pl.wr
  induction l with
  | nil => rfl
  | cons c r ih => rw [List.flatMap_cons, List.length_append, ih]; unfold Pl.wf; split <;> simp <;> omega
theorem L2_length (l : List UInt8) (k : Nat) : (L2 l k).length = l.length := by
  unfold L2; rw [List.length_append, wr1_length, ← List.length_append, List.take_append_drop]
theorem L2_hit (s : ByteArray) (k : Nat) (h : k < s.size) (hc : s[k] = 32) : (L2 (bl s) k).set k 43 = L2 (bl s) (k + 1) := by
  have hl : (Pl.wr ((bl s).take k) 32 [43]).length = k := by rw [wr1_length, List.length_take, length_bl]; omega
  unfold L2
  rw [List.set_append_right _ _ (by omega), hl, Nat.sub_self, bl_drop s k h, bl_take s k h]
  unfold Pl.wr
  rw [List.flatMap_append]
  simp [Pl.wf, hc]
theorem L2_miss (s : ByteArray) (k : Nat) (h : k < s.size) (hc : s[k] ≠ 32) : L2 (bl s) k = L2 (bl s) (k + 1) := by
  unfold L2
  rw [bl_drop s k h, bl_take s k h]
  unfold Pl.wr
  rw [List.flatMap_append]
  simp [Pl.wf, hc]
theorem L2_zero (l : List UInt8) : L2 l 0 = l := by simp [L2, Pl.wr]
theorem L2_end (s : ByteArray) (k : Nat) (h : s.size ≤ k) (hx : hxB true (bl s) = 0) : L2 (bl s) k = EB true (bl s) := by
  unfold L2
  rw [bl_take_all s k h, bl_drop_all s k h, List.append_nil, EB_flat]
  unfold hxB at hx
  rw [EB_flat] at hx
  unfold Pl.wr
  generalize bl s = l at hx
  induction l with
  | nil => rfl
  | cons c r ih =>
    rw [List.flatMap_cons, List.count_append] at hx
    rw [List.flatMap_cons, List.flatMap_cons, ih (by omega)]
    congr 1
    unfold Pl.wf
    split
    · rename_i h; subst h; exact f_sp.1.symm
    · rename_i h
      cases hse : seB (mv true) c with
      | false => exact (f_no true c hse).1.symm
      | true =>
        obtain ⟨e1, _, e2⟩ := f_hx true c hse (by simpa using h)
        rw [e1, e2] at hx
        omega
theorem val_i64 {a b : Nat} (h : a = b) : Value.int .i64 (a : Int) = .int .i64 (b : Int) := by rw [h]

end Go.Proofs.YtckdlmbdgjcncaaDoor
