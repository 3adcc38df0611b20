/-
  Rows of bytes that a call makes and fills: what a walk of net/url's escape reads and writes. No condition.
-/
import Derived.Test.YtckdlmbdgjcncaaDoorStr
import Derived.Lib.ConvBytes
import Derived.Lib.BufferWrite
import Derived.Laws.IdiomStrings
import Derived.Lib.Hide
namespace Go.Proofs.YtckdlmbdgjcncaaDoor
open Go.RowKit

/-- a byte as a cell -/
def bv (c : UInt8) : Value := .int .u8 (c.toNat : Int)
/-- row T begins with the bytes l and has n cells at least; it may be written -/
def RowAt (w : World) (T : Nat) (l : List UInt8) (n : Nat) : Prop := ∃ ty rest, w.heap[T]? = some (.cells (l.map bv ++ rest).toArray ty (0, 0)) ∧ n ≤ l.length + rest.length

theorem RowAt.frozen {w : World} {T n : Nat} {l : List UInt8} (h : RowAt w T l n) (j : Nat) : w.frozen? ⟨T, j, none⟩ = false := by
  obtain ⟨ty, rest, hh, _⟩ := h
  simp [World.frozen?, hh]
theorem RowAt.next {w : World} {T n : Nat} {l : List UInt8} (h : RowAt w T l n) (j : Nat) (hj : l.length = j) (hn : j < n) : ∃ v, w.cell? ⟨T, j, none⟩ = some v := by
  obtain ⟨ty, rest, hh, hl⟩ := h
  match rest, hl with
  | [], hl => simp at hl; omega
  | v :: rest, _ => exact ⟨v, by simp [World.cell?, hh, ← hj]⟩
theorem RowAt.ahead {w : World} {T n : Nat} {l : List UInt8} (h : RowAt w T l n) (j : Nat) (hn : j < n) : ∃ v, w.cell? ⟨T, j, none⟩ = some v := by
  obtain ⟨ty, rest, hh, hl⟩ := h
  exact ⟨(l.map bv ++ rest)[j]'(by simp; omega), by simp [World.cell?, hh]⟩
theorem RowAt.read {w : World} {T n : Nat} {l : List UInt8} (h : RowAt w T l n) (j : Nat) (hj : j < l.length) : w.cell? ⟨T, j, none⟩ = some (.int .u8 (l[j].toNat : Int)) := by
  obtain ⟨ty, rest, hh, hl⟩ := h
  simp [World.cell?, hh, List.getElem?_append, hj, bv]
theorem heap_setCell_at (w : World) (T j : Nat) (cs : List Value) (ty : TypeId) (fr : Nat × Nat) (v : Value) (h : w.heap[T]? = some (.cells cs.toArray ty fr)) :
    (w.setCell ⟨T, j, none⟩ v).heap[T]? = some (.cells (cs.set j v).toArray ty fr) := by
  simp [World.setCell, Array.getElem?_modify, h]
theorem RowAt.push {w : World} {T n : Nat} {l : List UInt8} (h : RowAt w T l n) (j : Nat) (hj : l.length = j) (hn : j < n) (c : UInt8) : RowAt (w.setCell ⟨T, j, none⟩ (bv c)) T (l ++ [c]) n := by
  obtain ⟨ty, rest, hh, hl⟩ := h
  match rest, hl, hh with
  | [], hl, _ => simp at hl; omega
  | v :: rest, hl, hh =>
    refine ⟨ty, rest, ?_, by simp at hl ⊢; omega⟩
    rw [heap_setCell_at _ _ _ _ _ _ _ hh]
    have : (l.map bv ++ v :: rest).set j (bv c) = (l ++ [c]).map bv ++ rest := by
      rw [List.set_append_right _ _ (by simp; omega)]
      simp [hj]
    rw [this]
/-- a byte in the middle is written -/
theorem RowAt.over {w : World} {T n : Nat} {l : List UInt8} (h : RowAt w T l n) (j : Nat) (hj : j < l.length) (c : UInt8) : RowAt (w.setCell ⟨T, j, none⟩ (bv c)) T (l.set j c) n := by
  obtain ⟨ty, rest, hh, hl⟩ := h
  refine ⟨ty, rest, ?_, by simpa using hl⟩
  rw [heap_setCell_at _ _ _ _ _ _ _ hh, List.set_append_left _ _ (by simpa using hj), List.map_set]
theorem RowAt.push3 {w : World} {T n : Nat} {l : List UInt8} (h : RowAt w T l n) (j : Nat) (hj : l.length = j) (hn : j + 3 ≤ n) (a b c : UInt8) {x y z : Value} (hx : x = bv a) (hy : y = bv b) (hz : z = bv c) :
    RowAt (((w.setCell ⟨T, j, none⟩ x).setCell ⟨T, j + 1, none⟩ y).setCell ⟨T, j + 2, none⟩ z) T (l ++ [a, b, c]) n := by
  subst hx hy hz
  have h3 := ((h.push j hj (by omega) a).push (j + 1) (by simp [hj]) (by omega) b).push (j + 2) (by simp [hj]) (by omega) c
  simpa using h3
/-- a digit of net/url's row of capital digits -/
theorem dig_val (n : Nat) (h : n < 16) (h' : n < (⟨#[48, 49, 50, 51, 52, 53, 54, 55, 56, 57, 65, 66, 67, 68, 69, 70]⟩ : ByteArray).size) :
    Value.int .u8 (((⟨#[48, 49, 50, 51, 52, 53, 54, 55, 56, 57, 65, 66, 67, 68, 69, 70]⟩ : ByteArray)[n]).toNat : Int) = bv (Pl.capD.getD n 0) := by
  have H : ∀ i : Fin 16, (⟨#[48, 49, 50, 51, 52, 53, 54, 55, 56, 57, 65, 66, 67, 68, 69, 70]⟩ : ByteArray)[i.val]'(i.isLt) = Pl.capD.getD i.val 0 := by decide +kernel
  unfold bv
  rw [← H ⟨n, h⟩]
theorem grown_set {w0 w : World} {T : Nat} (h : w0.grownBy w (some T)) (j : Nat) (v : Value) : w0.grownBy (w.setCell ⟨T, j, none⟩ v) (some T) :=
  ⟨h.os, h.tape, h.output, by have := h.size; simp [World.setCell]; exact this, fun k hk hne => (Below.heap_setCell _ _ _ _ (fun e => hne (by rw [e]))).trans (h.block k hk hne)⟩
theorem below_grown {B : Nat} {w0 w : World} {T : Nat} (h : w0.grownBy w (some T)) (hB : B ≤ w0.heap.size) (hT : B ≤ T) : Below B w0 w :=
  (Below.refl B w0).grown h hB (fun k e => by cases e; exact hT)

/-- '[]byte(s)' -/
theorem conv_str (s : ByteArray) (w : World) : ∃ cap w1, (convert 9 32 (.string s)).run Tryd.prog w = .ok (.slice (some ⟨w.heap.size, 0, none⟩) s.size cap) w1 ∧
    (∀ j (h : j < s.size), w1.cell? ⟨w.heap.size, j, none⟩ = some (.int .u8 (s[j].toNat : Int))) ∧ Below w.heap.size w w1 ∧ w1.heap.size = w.heap.size + 1 := by
  refine ⟨_, _, Lib.run_convert_string_bytes w 9 32 5 s Tryd.underlying9 Tryd.underlying32 Tryd.underlying5, fun j h => ?_, ?_, Lib.bytesWorld_size _ _ _⟩
  · rw [Lib.bytesWorld_cell w 5 s j h]
    have : s.data.toList.getD j 0 = s[j] := by
      show (bl s).getD j 0 = _
      rw [List.getD_eq_getElem?_getD, List.getElem?_eq_getElem (by rw [length_bl]; exact h), Option.getD_some, bl_get s j h]
    rw [this]
  · exact ⟨rfl, rfl, rfl, by rw [Lib.bytesWorld_size]; omega, fun k hk => Lib.bytesWorld_at_old w 5 s k hk⟩
/-- 'string(b)' -/
theorem conv_back (w : World) (T n cap m : Nat) (l : List UInt8) (h : RowAt w T l n) (hm : l.length = m) :
    (convert 32 9 (.slice (some ⟨T, 0, none⟩) m cap)).run Tryd.prog w = .ok (.string (mk l)) w := by
  subst hm
  exact run_convert_bytes_back w 32 9 5 ⟨T, 0, none⟩ cap l Tryd.underlying32 Tryd.underlying5 Tryd.underlying9 (fun j hj => by
    have : (⟨T, 0, none⟩ : Addr).add j = ⟨T, j, none⟩ := by unfold Addr.add; split <;> simp_all
    rw [this]; exact h.read j hj)
/-- 'copy(b, s)' -/
theorem copy_str (w : World) (T n cap m : Nat) (s : ByteArray) (h : RowAt w T [] n) (hn : s.size ≤ n) (hm : s.size ≤ m) :
    ∃ w', (Builtin.copy_ #[32, 9] 3 #[.slice (some ⟨T, 0, none⟩) m cap, .string s]).run Tryd.prog w = .ok (goInt s.size) w' ∧ RowAt w' T (bl s) n ∧ w.grownBy w' (some T) := by
  obtain ⟨ty, rest, hh, hl⟩ := h
  simp only [List.map_nil, List.nil_append, List.length_nil, Nat.zero_add] at hh hl
  refine ⟨_, Lib.run_copy_row_string (P := Tryd.prog) w 32 9 3 5 T 0 m cap s rest.toArray ty Tryd.underlying32 (by kernel_rfl) hh hm (by simp; omega), ?_, ?_⟩
  · refine ⟨ty, rest.drop s.size, ?_, ?_⟩
    · rw [setRow_heap w T _ _ ty _ hh]
      simp [bl, bv, Lib.byteCells]
    · rw [length_bl, List.length_drop]; omega
  · exact ⟨rfl, rfl, rfl, by simp [World.setRow], fun k _ hne => setRow_other w T k _ (fun e => hne (by rw [e]))⟩
/-- 'buf[:n]' of the local array of 64 bytes -/
theorem slice_buf (B R : Nat) (z : Int) (hz : z = R) (h : R ≤ 64) (W : World) :
   (Instr.sliceAt 48 (.pointer (some ⟨B, 0, none⟩)) none (some (.int .i64 z)) none).run Tryd.prog W = .ok (.slice (some ⟨B, 0, none⟩) R 64) W := by
 subst hz
 have hu : Tryd.prog.underlying 48 = some (.array (Tryd.prog.arrayLen 48) (Tryd.prog.elem 48)) := by kernel_rfl
 have hn : Tryd.prog.arrayLen 48 = 64 := by kernel_rfl
 rw [run_sliceAt_array_h W 48 ⟨B, 0, none⟩ hu .i64 (R : Int) (by omega) (by rw [hn]; omega), hn]
 have hs : (sizeOf (Tryd.prog.elem 48)).run Tryd.prog W = .ok 1 W := by kernel_rfl
 rw [hs]
 simp [Result.andThen, slicedAt, Addr.add]
theorem infoU8 : (Tryd.prog.info? 5).map (fun i => (i.zero, i.size, i.bytes)) = some (some (.int .u8 0), 1, 1) := by kernel_rfl
/-- 'make([]byte, n)' -/
def mrow (R : Nat) : Array Value := madeCells (Value.cells (.int .u8 0)) R
theorem make_row (R : Nat) (z : Int) (hz : z = R) (h : R ≤ 281474976710656) (W : World) :
   (Instr.makeSlice 32 (.int .i64 z) (.int .i64 z)).run Tryd.prog W = .ok (.slice (some ⟨W.heap.size, 0, none⟩) R R) (W.alloc (.cells (mrow R) 5)) := by
 subst hz
 obtain ⟨i0, hi, hz0, hz1, hz2⟩ := info_parts infoU8
 have h1 := run_make (P := Tryd.prog) W 32 5 i0 (.int .u8 0) Tryd.underlying32 hi hz0 .i64 .i64 (R : Int) (R : Int) (by omega) (Int.le_refl _) (by rw [hz2]; omega) (by omega)
 rw [Int.toNat_natCast, hz1, Nat.mul_one] at h1
 exact h1
theorem row_made (W : World) (R : Nat) : RowAt (W.alloc (.cells (mrow R) 5)) W.heap.size [] R := by
 refine ⟨5, (mrow R).toList, ?_, ?_⟩
 · rw [heap_alloc_new]; simp
 · simp [mrow, madeCells, Value.cells]
/-- the local array -/
theorem row_buf (W : World) (cs : List Value) (ty : TypeId) (R : Nat) (h : R ≤ cs.length) : RowAt (W.alloc (.cells cs.toArray ty)) W.heap.size [] R :=
 ⟨ty, cs, by rw [heap_alloc_new]; simp, by simpa using h⟩
theorem RowAt.of_block {w w' : World} {T n : Nat} {l : List UInt8} (h : RowAt w T l n) (hb : w'.heap[T]? = w.heap[T]?) : RowAt w' T l n := by
  obtain ⟨ty, rest, hh, hl⟩ := h
  exact ⟨ty, rest, hb.trans hh, hl⟩
end Go.Proofs.YtckdlmbdgjcncaaDoor
