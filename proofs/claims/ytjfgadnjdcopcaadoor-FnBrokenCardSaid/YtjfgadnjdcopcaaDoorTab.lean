/-
  What the row's listed variable gives a walk: the cells of net/url's table; and what the table says of each byte. No condition.
-/
import Derived.Test.YtjfgadnjdcopcaaDoorRows
import Derived.Test.YtjfgadnjdcopcaaDoorPlain
import Derived.WalkKit
import Derived.WalkSpells
import Derived.WalkLawsBesides
import Derived.Lib.LaidTab
import Derived.MakeChecks
namespace Go.Proofs.YtjfgadnjdcopcaaDoor
open Go.RowKit

/-- net/url's table -/
def tabZ : List Int := [0, 0, 0, 0, 0, 0, 0, 0, 0, 0, 0, 0, 0, 0, 0, 0, 0, 0, 0, 0, 0, 0, 0, 0, 0, 0, 0, 0, 0, 0, 0, 0, 0, 76, 12, 0, 95, 0, 95, 12, 76, 76, 76, 95, 93, 127, 127, 65, 255, 255, 255, 255, 255, 255, 255, 255, 255, 255, 79, 93, 12, 95, 12, 64, 67, 255, 255, 255, 255, 255, 255, 127, 127, 127, 127, 127, 127, 127, 127, 127, 127, 127, 127, 127, 127, 127, 127, 127, 127, 127, 127, 12, 0, 12, 0, 127, 0, 255, 255, 255, 255, 255, 255, 127, 127, 127, 127, 127, 127, 127, 127, 127, 127, 127, 127, 127, 127, 127, 127, 127, 127, 127, 127, 0, 0, 0, 127, 0, 0, 0, 0, 0, 0, 0, 0, 0, 0, 0, 0, 0, 0, 0, 0, 0, 0, 0, 0, 0, 0, 0, 0, 0, 0, 0, 0, 0, 0, 0, 0, 0, 0, 0, 0, 0, 0, 0, 0, 0, 0, 0, 0, 0, 0, 0, 0, 0, 0, 0, 0, 0, 0, 0, 0, 0, 0, 0, 0, 0, 0, 0, 0, 0, 0, 0, 0, 0, 0, 0, 0, 0, 0, 0, 0, 0, 0, 0, 0, 0, 0, 0, 0, 0, 0, 0, 0, 0, 0, 0, 0, 0, 0, 0, 0, 0, 0, 0, 0, 0, 0, 0, 0, 0, 0, 0, 0, 0, 0, 0, 0, 0, 0, 0, 0, 0, 0, 0, 0, 0, 0, 0, 0, 0, 0, 0, 0, 0]
/-- the table lies in its variable -/
def TabAt (w : World) : Prop := ∀ i, i < 256 → w.cell? ⟨0, i, none⟩ = some (.int .u8 (tabZ.getD i 0))
theorem TabAt.at {w : World} (h : TabAt w) (c : UInt8) : w.cell? ⟨0, c.toNat, none⟩ = some (.int .u8 (tabZ.getD c.toNat 0)) := h _ c.toNat_lt
theorem TabAt.below {B : Nat} {w w' : World} (h : TabAt w) (hb : Below B w w') (hB : 0 < B) : TabAt w' := fun i hi => (hb.cell (p := ⟨0, i, none⟩) hB).trans (h i hi)
theorem tab_lt {w : World} (h : TabAt w) : 0 < w.heap.size := by
  rcases Nat.lt_or_ge 0 w.heap.size with h' | h'
  · exact h'
  · have := h 0 (by omega)
    simp [World.cell?, Array.getElem?_eq_none h'] at this

theorem gTab : Tryd.prog.globalNamed "net/url.table" = some 0 := by kernel_rfl
theorem gTabType : (Tryd.prog.globals[0]?).map (·.type) = some 53 := by kernel_rfl
theorem cellsTab : Tryd.prog.cellsOf 53 = 256 := by kernel_rfl
theorem cellsEnc : Tryd.prog.cellsOf 41 = 1 := by kernel_rfl
theorem tabZ_length : tabZ.length = 256 := by decide +kernel
theorem laid_eq : (Rows.laid_net_url_table : DataW Unit) = Lib.tabData .u8 tabZ := by kernel_rfl
theorem tabAt_of {W : World} (h : laidMetH Tryd.prog [("net/url.table", Rows.laid_net_url_table)] W) : TabAt W := by
  rw [Go.MakeChecks.laidMetH_plain _ _ _ (by kernel_rfl), laid_eq] at h
  have hT : Lib.TabIs Tryd.prog W "net/url.table" .u8 tabZ := Lib.tabIs_of_head (rest := []) gTab gTabType Tryd.underlying53 Tryd.underlying41 cellsEnc cellsTab h
  exact fun i hi => hT.cell gTab i (by rw [tabZ_length]; exact hi)
end Go.Proofs.YtjfgadnjdcopcaaDoor
