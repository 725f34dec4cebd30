/- strconv.Itoa, in the form of a printed function; the table that it reads. -/
import Derived.Test.YtaegllbokgjoeaaDoorShelf
import Derived.Test.YtaegllbokgjoeaaDoorStays
import Derived.Test.YtaegllbokgjoeaaDoorSt
namespace Go.Proofs.YtaegllbokgjoeaaDoor
set_option linter.unusedVariables false
set_option linter.unusedSimpArgs false
open Go.RowKit Go.Sort

/-- The library's table of powers of ten lies as the program's text lays it. -/
def StrIs (w : World) : Prop := Lib.TabIs Tryd.prog w "internal/strconv.uint64pow10" .u64 Lib.pow10Tab
theorem gPow : Tryd.prog.globalNamed "internal/strconv.uint64pow10" = some 0 := by kernel_rfl
theorem tab_below' {n : String} {g : Nat} (hg : Tryd.prog.globalNamed n = some g) {k : IntKind} {zs : List Int} {w w' : World} (h : Lib.TabIs Tryd.prog w n k zs) (hb : Below w.heap.size w w') : Lib.TabIs Tryd.prog w' n k zs := by
  unfold Lib.TabIs World.var? at h ⊢
  rw [hg] at h ⊢
  simp only [Option.bind_some] at h ⊢
  have hlt : g < w.heap.size := by
    rcases Nat.lt_or_ge g w.heap.size with h' | h'
    · exact h'
    · rw [Array.getElem?_eq_none h'] at h; cases h
  rw [hb.block g hlt]
  exact h
theorem StrIs.below {w w' : World} (h : StrIs w) (hb : Below w.heap.size w w') : StrIs w' := tab_below' gPow h hb
instance : Stays StrIs := ⟨fun h hb => h.below hb⟩
class HasStr (T : World → Prop) : Prop where
  str : ∀ {w : World}, T w → StrIs w
instance : HasStr StrIs := ⟨fun h => h⟩

end Go.Proofs.YtaegllbokgjoeaaDoor
