/-
  What net/url's unescape looks at and writes, step by step: plain facts for its walk. No condition.
-/
import Derived.Test.YtjfgadnjdcopcaaDoorPlainU
import Derived.Test.YtjfgadnjdcopcaaDoorMode
import Derived.Test.YtjfgadnjdcopcaaDoorHexU
import Derived.Lib.UnsafeStr
namespace Go.Proofs.YtjfgadnjdcopcaaDoor
open Go.RowKit
theorem b37 {c : UInt8} (h : c = 37) : ((c.toNat : Int) == 37) = true := by rw [h]; rfl
theorem n37 {c : UInt8} (h : c ≠ 37) : ((c.toNat : Int) == 37) = false := (byte_ne (b := 37)).2 h
theorem b43 {c : UInt8} (h : c = 43) : ((c.toNat : Int) == 43) = true := by rw [h]; rfl
theorem n43 {c : UInt8} (h : c ≠ 43) : ((c.toNat : Int) == 43) = false := (byte_ne (b := 43)).2 h
theorem drop3 (s : ByteArray) (k : Nat) (h : k + 2 < s.size) : (bl s).drop k = s[k] :: s[k + 1] :: s[k + 2] :: (bl s).drop (k + 3) := by
  rw [bl_drop s k (by omega), bl_drop s (k + 1) (by omega), bl_drop s (k + 2) h]
theorem drop_short (s : ByteArray) (k : Nat) (h1 : k < s.size) (h2 : s.size ≤ k + 2) : (bl s).drop k = [s[k]] ∨ ∃ a, (bl s).drop k = [s[k], a] := by
  rw [bl_drop s k h1]
  by_cases h : s.size ≤ k + 1
  · exact Or.inl (by rw [bl_drop_all s (k + 1) h])
  · exact Or.inr ⟨s[k + 1], by rw [bl_drop s (k + 1) (by omega), bl_drop_all s (k + 2) h2]⟩

/-- the first loop: k bytes looked at, m escapes, b: a plus sign that matters -/
def ScanRel (q : Bool) (s : ByteArray) (k m : Nat) (b : Bool) : Prop :=
  Pl.scan q (bl s) = (Pl.scan q ((bl s).drop k)).map (fun x => (m + x.1, b || x.2)) ∧ (q = false → b = false)
theorem scan_start (q : Bool) (s : ByteArray) : ScanRel q s 0 0 false := by
  refine ⟨?_, fun _ => rfl⟩
  rw [List.drop_zero]
  cases h : Pl.scan q (bl s) <;> simp
theorem scan_esc (q : Bool) (s : ByteArray) (k m : Nat) (b : Bool) (h : ScanRel q s k m b) (h2 : k + 2 < s.size) (hc : s[k] = 37) (ha : Pl.hexB s[k + 1] = true) (hb : Pl.hexB s[k + 2] = true) : ScanRel q s (k + 3) (m + 1) b := by
  refine ⟨?_, h.2⟩
  rw [h.1, drop3 s k h2, hc, Pl.scan_hex _ _ _ _ (by rw [ha, hb]; rfl)]
  cases Pl.scan q ((bl s).drop (k + 3)) with
  | none => rfl
  | some x => simp; omega
theorem scan_plus (q : Bool) (s : ByteArray) (k m : Nat) (b : Bool) (h : ScanRel q s k m b) (h2 : k < s.size) (hc : s[k] = 43) : ScanRel q s (k + 1) m q := by
  refine ⟨?_, fun e => e⟩
  rw [h.1, bl_drop s k h2, hc, Pl.scan_other _ _ _ (by decide)]
  cases Pl.scan q ((bl s).drop (k + 1)) with
  | none => rfl
  | some x =>
    cases q
    · simp [h.2 rfl]
    · simp
theorem scan_plain (q : Bool) (s : ByteArray) (k m : Nat) (b : Bool) (h : ScanRel q s k m b) (h2 : k < s.size) (hc : s[k] ≠ 37) (hp : s[k] ≠ 43) : ScanRel q s (k + 1) m b := by
  refine ⟨?_, h.2⟩
  rw [h.1, bl_drop s k h2, Pl.scan_other _ _ _ hc]
  have e : (s[k] == 43) = false := by simpa using hp
  cases Pl.scan q ((bl s).drop (k + 1)) with
  | none => rfl
  | some x => simp [e]
theorem une_none (q : Bool) (l : List UInt8) (h : Pl.scan q l = none) : Pl.une (Pl.pl q) l = none := by
  rcases Pl.scan_une q l with ⟨_, h2⟩ | ⟨n, hp, r, h1, _⟩
  · exact h2
  · rw [h] at h1; cases h1
theorem scan_bad (q : Bool) (s : ByteArray) (k m : Nat) (b : Bool) (h : ScanRel q s k m b) (h2 : k + 2 < s.size) (hc : s[k] = 37) (ha : (Pl.hexB s[k + 1] && Pl.hexB s[k + 2]) = false) : Pl.une (Pl.pl q) (bl s) = none := by
  apply une_none
  rw [h.1, drop3 s k h2, hc, Pl.scan_bad _ _ _ _ ha]; rfl
theorem scan_short (q : Bool) (s : ByteArray) (k m : Nat) (b : Bool) (h : ScanRel q s k m b) (h1 : k < s.size) (h2 : s.size ≤ k + 2) (hc : s[k] = 37) : Pl.une (Pl.pl q) (bl s) = none := by
  apply une_none
  rw [h.1]
  rcases drop_short s k h1 h2 with e | ⟨a, e⟩
  · rw [e, hc, Pl.scan_short0]; rfl
  · rw [e, hc, Pl.scan_short1]; rfl
theorem scan_end (q : Bool) (s : ByteArray) (k m : Nat) (b : Bool) (h : ScanRel q s k m b) (h1 : s.size ≤ k) : ∃ r, Pl.une (Pl.pl q) (bl s) = some r ∧ r.length + 2 * m = s.size ∧ (m = 0 → b = false → r = bl s) := by
  have e := h.1
  rw [bl_drop_all s k h1, Pl.scan_nil] at e
  rcases Pl.scan_une q (bl s) with ⟨h1, _⟩ | ⟨n, hp, r, h1, h2, h3, h4, _⟩
  · rw [h1] at e; cases e
  · rw [h1] at e
    simp at e
    obtain ⟨rfl, rfl⟩ := e
    exact ⟨r, h2, by rw [h3, length_bl], h4⟩

/-- the second loop: k bytes read, bs written -/
def UneRel (q : Bool) (s : ByteArray) (r : List UInt8) (k : Nat) (bs : List UInt8) : Prop :=
  ∃ x, Pl.une (Pl.pl q) ((bl s).drop k) = some x ∧ r = bs ++ x
theorem une_start (q : Bool) (s : ByteArray) (r : List UInt8) (h : Pl.une (Pl.pl q) (bl s) = some r) : UneRel q s r 0 [] := ⟨r, by rw [List.drop_zero]; exact h, rfl⟩
theorem une_esc (q : Bool) (s : ByteArray) (r : List UInt8) (k : Nat) (bs : List UInt8) (h : UneRel q s r k bs) (h1 : k < s.size) (hc : s[k] = 37) :
    ∃ h2 : k + 2 < s.size, Pl.hexB s[k + 1] = true ∧ Pl.hexB s[k + 2] = true ∧ UneRel q s r (k + 3) (bs ++ [UInt8.ofNat (Pl.hv s[k + 1] * 16 + Pl.hv s[k + 2])]) := by
  obtain ⟨x, hx, rfl⟩ := h
  by_cases h2 : k + 2 < s.size
  · refine ⟨h2, ?_⟩
    rw [drop3 s k h2, hc] at hx
    cases hh : (Pl.hexB s[k + 1] && Pl.hexB s[k + 2]) with
    | false => rw [Pl.une_bad _ _ _ _ hh] at hx; cases hx
    | true =>
      rw [Pl.une_hex _ _ _ _ hh] at hx
      rw [Bool.and_eq_true] at hh
      refine ⟨hh.1, hh.2, ?_⟩
      cases hy : Pl.une (Pl.pl q) ((bl s).drop (k + 3)) with
      | none => rw [hy] at hx; cases hx
      | some y =>
        rw [hy] at hx
        simp only [Option.map_some, Option.some.injEq] at hx
        exact ⟨y, hy, by rw [← hx]; simp⟩
  · exfalso
    rcases drop_short s k h1 (by omega) with e | ⟨a, e⟩
    · rw [e, hc, Pl.une_short0] at hx; cases hx
    · rw [e, hc, Pl.une_short1] at hx; cases hx
theorem une_one (q : Bool) (s : ByteArray) (r : List UInt8) (k : Nat) (bs : List UInt8) (h : UneRel q s r k bs) (h1 : k < s.size) (hc : s[k] ≠ 37) :
    UneRel q s r (k + 1) (bs ++ [if s[k] = 43 then Pl.pl q else s[k]]) := by
  obtain ⟨x, hx, rfl⟩ := h
  rw [bl_drop s k h1, Pl.une_other _ _ _ hc] at hx
  cases hy : Pl.une (Pl.pl q) ((bl s).drop (k + 1)) with
  | none => rw [hy] at hx; cases hx
  | some y =>
    rw [hy] at hx
    simp only [Option.map_some, Option.some.injEq] at hx
    exact ⟨y, hy, by rw [← hx]; simp⟩
theorem une_end (q : Bool) (s : ByteArray) (r : List UInt8) (k : Nat) (bs : List UInt8) (h : UneRel q s r k bs) (h1 : s.size ≤ k) : r = bs := by
  obtain ⟨x, hx, rfl⟩ := h
  rw [bl_drop_all s k h1, Pl.une_nil] at hx
  cases hx
  simp
theorem une_len (q : Bool) (s : ByteArray) (r : List UInt8) (k : Nat) (bs : List UInt8) (h : UneRel q s r k bs) : bs.length ≤ r.length := by
  obtain ⟨x, _, rfl⟩ := h
  simp
theorem une_room (q : Bool) (s : ByteArray) (r : List UInt8) (k : Nat) (bs : List UInt8) (c : UInt8) (h : UneRel q s r k (bs ++ [c])) : bs.length + 1 ≤ r.length := by
  have := une_len q s r k _ h
  simpa using this
/-- the byte of two digits -/
theorem hv_lt : ∀ c : UInt8, Pl.hexB c = true → Pl.hv c < 16 := Pl.forall_byte _ (by decide +kernel)
theorem or_val (a b : Nat) (ha : a < 16) (hb : b < 16) : bits BinOp.or IntKind.u8 ((a : Int) * 16) (b : Int) = ((a * 16 + b : Nat) : Int) := by
  have H : ∀ i j : Fin 16, bits BinOp.or IntKind.u8 ((i.val : Int) * 16) (j.val : Int) = ((i.val * 16 + j.val : Nat) : Int) := by decide +kernel
  exact H ⟨a, ha⟩ ⟨b, hb⟩
theorem byte_of (n : Nat) (h : n < 256) : ((UInt8.ofNat n).toNat : Int) = (n : Int) := by
  rw [UInt8.toNat_ofNat']; omega
theorem byteCells_snoc (bs : List UInt8) (c : UInt8) : Lib.byteCells (bs ++ [c]) = Lib.byteCells bs ++ [.int .u8 (c.toNat : Int)] := by simp [Lib.byteCells]
end Go.Proofs.YtjfgadnjdcopcaaDoor
