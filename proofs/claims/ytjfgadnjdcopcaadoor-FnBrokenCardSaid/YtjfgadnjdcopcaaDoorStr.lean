/-
  Strings as lists of bytes, in words that the walk does not look into. No condition.
-/
import Derived.Test.YtjfgadnjdcopcaaDoorTab
namespace Go.Proofs.YtjfgadnjdcopcaaDoor
open Go.RowKit

/-- a string's bytes; the string of some bytes -/
def bl (s : ByteArray) : List UInt8 := s.data.toList
def mk (l : List UInt8) : ByteArray := ⟨l.toArray⟩
theorem bl_mk (l : List UInt8) : bl (mk l) = l := by simp [bl, mk]
theorem mk_bl (s : ByteArray) : mk (bl s) = s := by cases s; simp [bl, mk]
theorem mk_inj {a b : List UInt8} : mk a = mk b ↔ a = b := ⟨fun h => by have := congrArg bl h; rwa [bl_mk, bl_mk] at this, fun h => by rw [h]⟩
theorem size_mk (l : List UInt8) : (mk l).size = l.length := by show l.toArray.size = _; simp
theorem length_bl (s : ByteArray) : (bl s).length = s.size := Array.length_toList
theorem bl_get (s : ByteArray) (k : Nat) (h : k < s.size) : (bl s)[k]'(by rw [length_bl]; exact h) = s[k] := by simp [bl]; rfl
theorem bl_take (s : ByteArray) (k : Nat) (h : k < s.size) : (bl s).take (k + 1) = (bl s).take k ++ [s[k]] := by
  rw [List.take_succ_eq_append_getElem (by rw [length_bl]; exact h), bl_get s k h]
theorem bl_drop (s : ByteArray) (k : Nat) (h : k < s.size) : (bl s).drop k = s[k] :: (bl s).drop (k + 1) := by
  rw [List.drop_eq_getElem_cons (by rw [length_bl]; exact h), bl_get s k h]
theorem bl_take_all (s : ByteArray) (k : Nat) (h : s.size ≤ k) : (bl s).take k = bl s := List.take_of_length_le (by rw [length_bl]; exact h)
theorem bl_drop_all (s : ByteArray) (k : Nat) (h : s.size ≤ k) : (bl s).drop k = [] := List.drop_eq_nil_iff.2 (by rw [length_bl]; exact h)
theorem bl_append (a b : ByteArray) : bl (a ++ b) = bl a ++ bl b := by simp [bl]
theorem mk_append (a : List UInt8) (b : ByteArray) : mk a ++ b = mk (a ++ bl b) := by
  rw [← mk_bl (mk a ++ b), bl_append, bl_mk]
theorem bl_one (s : ByteArray) (k : Nat) (h : k < s.size) : bl (s.extract k (k + 1)) = [s[k]] := by
  have h1 : (bl (s.extract k (k + 1))).length = 1 := by rw [length_bl, ByteArray.size_extract]; omega
  match hx : bl (s.extract k (k + 1)), h1 with
  | [a], _ =>
    have h2 : 0 < (s.extract k (k + 1)).size := by rw [ByteArray.size_extract]; omega
    have h3 := bl_get (s.extract k (k + 1)) 0 h2
    simp only [hx, List.getElem_cons_zero] at h3
    rw [h3]
    simp [ByteArray.getElem_extract]
/-- Go's == on strings -/
theorem toList_bl (s : ByteArray) : s.toList = bl s := by rw [ByteArray.toList_eq]; rfl
theorem eqL (a b : ByteArray) : (a.toList == b.toList) = (bl a == bl b) := by rw [toList_bl, toList_bl]
theorem ret_str {a b : ByteArray} (h : a = b) : Ending.returned (.string a) = .returned (.string b) := by rw [h]
theorem ret_int {k : IntKind} {a b : Int} (h : a = b) : Ending.returned (.int k a) = .returned (.int k b) := by rw [h]
theorem ret_bool {a b : Bool} (h : a = b) : Ending.returned (.bool a) = .returned (.bool b) := by rw [h]
theorem byte_eq {a b : UInt8} : ((a.toNat : Int) == (b.toNat : Int)) = true ↔ a = b := by
  rw [beq_iff_eq]; constructor
  · intro h; exact UInt8.toNat_inj.1 (by omega)
  · intro h; rw [h]
theorem byte_ne {a b : UInt8} : ((a.toNat : Int) == (b.toNat : Int)) = false ↔ a ≠ b := by
  rw [← Bool.not_eq_true, byte_eq]
end Go.Proofs.YtjfgadnjdcopcaaDoor
