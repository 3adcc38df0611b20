/-
  The contracts of strings.Builder that net/url's unescape calls, laid at this program's numbers: each is one application of a theorem of the kit's shelf. Conditions: as each says.
-/
import Derived.Shelf.Strings.Builder1
import Derived.Shelf.Strings.Builder2
import Derived.Test.YtjfgadnjdcopcaaDoorProg
namespace Go.Proofs.YtjfgadnjdcopcaaDoor
open Go.Shelf Go.RowKit
def lays165_ren : Go.Shelf.Ren := ⟨fun | 165 => 33 | 240 => 36 | 241 => 37 | 276 => 38 | 277 => 39 | n => n, fun | 0 => 0 | 3 => 3 | 4 => 4 | 9 => 9 | 20 => 20 | 37 => 38 | 70 => 47 | 72 => 49 | 164 => 55 | 5 => 5 | n => n, fun | n => n⟩
theorem lays165 : Go.Proofs.Lays.n165 Tryd.prog lays165_ren := {
  mixed := by kernel_rfl
  f165 := Tryd.func33.trans (congrArg some (by kernel_rfl))
  f240 := Tryd.func36.trans (congrArg some (by kernel_rfl))
  f241 := Tryd.func37.trans (congrArg some (by kernel_rfl))
  f276 := Tryd.func38.trans (congrArg some (by kernel_rfl))
  f277 := Tryd.func39.trans (congrArg some (by kernel_rfl))
  t0 := Tryd.underlying0
  a0 := Tryd.isAgg0
  z0 := Tryd.sizeOf0
  v0 := Tryd.zeroValue0
  t3 := Tryd.underlying3
  a3 := Tryd.isAgg3
  z3 := Tryd.sizeOf3
  v3 := Tryd.zeroValue3
  t4 := Tryd.underlying4
  a4 := Tryd.isAgg4
  z4 := Tryd.sizeOf4
  v4 := Tryd.zeroValue4
  t9 := Tryd.underlying9
  a9 := Tryd.isAgg9
  z9 := Tryd.sizeOf9
  v9 := Tryd.zeroValue9
  t20 := Tryd.underlying20
  a20 := Tryd.isAgg20
  z20 := Tryd.sizeOf20
  v20 := Tryd.zeroValue20
  t37 := Tryd.underlying38
  a37 := Tryd.isAgg38
  z37 := Tryd.sizeOf38
  v37 := Tryd.zeroValue38
  t70 := Tryd.underlying47
  a70 := Tryd.isAgg47
  z70 := Tryd.sizeOf47
  v70 := Tryd.zeroValue47
  t72 := Tryd.underlying49
  a72 := Tryd.isAgg49
  z72 := Tryd.sizeOf49
  v72 := Tryd.zeroValue49
  t164 := Tryd.underlying55
  a164 := Tryd.isAgg55
  z164 := Tryd.sizeOf55
  v164 := Tryd.zeroValue55 }
theorem extra165 : Builder.Extra Tryd.prog lays165_ren := {
  sizeBuilder := by kernel_rfl
  liesBuilder := by kernel_rfl
  t5 := Tryd.underlying5
  a5 := Tryd.isAgg5
  z5 := Tryd.sizeOf5
  v5 := Tryd.zeroValue5
  infoByte := by kernel_rfl
  cellsByte := by kernel_rfl
  sizeByte := by kernel_rfl
  neB5 := by decide }
theorem bGrow (B b n : Nat) (w : World) (hB : B ≤ b) (hbk : w.heap[b]? = some (.cells #[.pointer none, .slice none 0 0] 49 (0, 0))) (hBw : B ≤ w.heap.size) (hn : n ≤ 281474976710656) :
    Calls Tryd.prog 33 #[.pointer (some ⟨b, 0, none⟩), .int .i64 n] w fun e w' => e = .returned (.tuple #[]) ∧ (Lib.BuilderAt 49 5 B b (.pointer (some ⟨b, 0, none⟩)) [] w' ∧ Below B w w') :=
  Any.Builder_Grow_fresh lays165 extra165 B b n w hB hbk hBw hn
def lays167_ren : Go.Shelf.Ren := ⟨fun | 167 => 34 | 240 => 36 | 276 => 38 | n => n, fun | 0 => 0 | 4 => 4 | 5 => 5 | 9 => 9 | 20 => 20 | 37 => 38 | 70 => 47 | 72 => 49 | 75 => 33 | 164 => 55 | 80 => 52 | n => n, fun | n => n⟩
theorem lays167 : Go.Proofs.Lays.n167 Tryd.prog lays167_ren := {
  mixed := by kernel_rfl
  f167 := Tryd.func34.trans (congrArg some (by kernel_rfl))
  f240 := Tryd.func36.trans (congrArg some (by kernel_rfl))
  f276 := Tryd.func38.trans (congrArg some (by kernel_rfl))
  t0 := Tryd.underlying0
  a0 := Tryd.isAgg0
  z0 := Tryd.sizeOf0
  v0 := Tryd.zeroValue0
  t4 := Tryd.underlying4
  a4 := Tryd.isAgg4
  z4 := Tryd.sizeOf4
  v4 := Tryd.zeroValue4
  t5 := Tryd.underlying5
  a5 := Tryd.isAgg5
  z5 := Tryd.sizeOf5
  v5 := Tryd.zeroValue5
  t9 := Tryd.underlying9
  a9 := Tryd.isAgg9
  z9 := Tryd.sizeOf9
  v9 := Tryd.zeroValue9
  t20 := Tryd.underlying20
  a20 := Tryd.isAgg20
  z20 := Tryd.sizeOf20
  v20 := Tryd.zeroValue20
  t37 := Tryd.underlying38
  a37 := Tryd.isAgg38
  z37 := Tryd.sizeOf38
  v37 := Tryd.zeroValue38
  t70 := Tryd.underlying47
  a70 := Tryd.isAgg47
  z70 := Tryd.sizeOf47
  v70 := Tryd.zeroValue47
  t72 := Tryd.underlying49
  a72 := Tryd.isAgg49
  z72 := Tryd.sizeOf49
  v72 := Tryd.zeroValue49
  t75 := Tryd.underlying33
  a75 := Tryd.isAgg33
  z75 := Tryd.sizeOf33
  v75 := Tryd.zeroValue33
  t164 := Tryd.underlying55
  a164 := Tryd.isAgg55
  z164 := Tryd.sizeOf55
  v164 := Tryd.zeroValue55 }
theorem extra167 : Builder.Extra Tryd.prog lays167_ren := {
  sizeBuilder := by kernel_rfl
  liesBuilder := by kernel_rfl
  t5 := Tryd.underlying5
  a5 := Tryd.isAgg5
  z5 := Tryd.sizeOf5
  v5 := Tryd.zeroValue5
  infoByte := by kernel_rfl
  cellsByte := by kernel_rfl
  sizeByte := by kernel_rfl
  neB5 := by decide }
theorem bByte (B b : Nat) (bs : List Value) (c : Int) (w : World) (h : Lib.IsBuilder 49 5 B b bs w) (hlen : bs.length + 1 ≤ 140737488355328) (hBw : B ≤ w.heap.size) :
    Calls Tryd.prog 34 #[.pointer (some ⟨b, 0, none⟩), .int .u8 c] w fun e w' => e = .returned .nilIface ∧ (Lib.BuilderAt 49 5 B b (.pointer (some ⟨b, 0, none⟩)) (bs ++ [.int .u8 c]) w' ∧ Below B w w') :=
  Any.Builder_WriteByte lays167 extra167 B b bs c w h hlen hBw
def lays169_ren : Go.Shelf.Ren := ⟨fun | 169 => 35 | n => n, fun | 0 => 0 | 3 => 3 | 9 => 9 | 37 => 38 | 70 => 47 | 72 => 49 | 127 => 54 | 5 => 5 | n => n, fun | n => n⟩
theorem lays169 : Go.Proofs.Lays.n169 Tryd.prog lays169_ren := {
  mixed := by kernel_rfl
  f169 := Tryd.func35.trans (congrArg some (by kernel_rfl))
  t0 := Tryd.underlying0
  a0 := Tryd.isAgg0
  z0 := Tryd.sizeOf0
  v0 := Tryd.zeroValue0
  t3 := Tryd.underlying3
  a3 := Tryd.isAgg3
  z3 := Tryd.sizeOf3
  v3 := Tryd.zeroValue3
  t9 := Tryd.underlying9
  a9 := Tryd.isAgg9
  z9 := Tryd.sizeOf9
  v9 := Tryd.zeroValue9
  t37 := Tryd.underlying38
  a37 := Tryd.isAgg38
  z37 := Tryd.sizeOf38
  v37 := Tryd.zeroValue38
  t70 := Tryd.underlying47
  a70 := Tryd.isAgg47
  z70 := Tryd.sizeOf47
  v70 := Tryd.zeroValue47
  t72 := Tryd.underlying49
  a72 := Tryd.isAgg49
  z72 := Tryd.sizeOf49
  v72 := Tryd.zeroValue49
  t127 := Tryd.underlying54
  a127 := Tryd.isAgg54
  z127 := Tryd.sizeOf54
  v127 := Tryd.zeroValue54 }
theorem extra169 : Builder.Extra Tryd.prog lays169_ren := {
  sizeBuilder := by kernel_rfl
  liesBuilder := by kernel_rfl
  t5 := Tryd.underlying5
  a5 := Tryd.isAgg5
  z5 := Tryd.sizeOf5
  v5 := Tryd.zeroValue5
  infoByte := by kernel_rfl
  cellsByte := by kernel_rfl
  sizeByte := by kernel_rfl
  neB5 := by decide }
theorem bString (B b : Nat) (l : List UInt8) (w : World) (h : Lib.IsBuilder 49 5 B b (Lib.byteCells l) w) (hBw : B ≤ w.heap.size) :
    Calls Tryd.prog 35 #[.pointer (some ⟨b, 0, none⟩)] w fun e w' => e = .returned (.string ⟨l.toArray⟩) ∧ Below B w w' :=
  Any.Builder_String_any lays169 extra169 B b l w h hBw
end Go.Proofs.YtjfgadnjdcopcaaDoor
