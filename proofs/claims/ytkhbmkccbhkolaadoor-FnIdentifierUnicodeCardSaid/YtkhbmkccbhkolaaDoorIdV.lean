/- utf8.ValidString at this program, and the tables that it reads. -/
import Derived.Test.YtkhbmkccbhkolaaDoorItoa
import Derived.Shelf.Lay
import Derived.Shelf.Unicode.ValidAny
import Derived.Lib.OthersKept
import Derived.Lib.TrimUEq
import Derived.Test.YtkhbmkccbhkolaaDoorUtf
open Go Go.Proofs Go.Shelf
namespace Go.Proofs
open Go.RowKit Go.Shelf Go.Lib
shelf_lay Lays.n196 Nm 196 at Tryd as Tryd.laysValid
end Go.Proofs
namespace Go.Proofs.YtkhbmkccbhkolaaDoor
set_option linter.unusedVariables false
set_option linter.unusedSimpArgs false
open Go.RowKit Go.Shelf Go.Lib
/-- The library's tables of UTF-8 lie as the program's text lays them. -/
def UtfIs (w : World) : Prop := Lib.Utf8Tabs (Tryd.laysValid_ren.g 3) (Tryd.laysValid_ren.g 4) w
instance : Stays UtfIs := ⟨fun h hb => Utf8Tabs_below h hb⟩
class HasUtf (T : World → Prop) : Prop where
  utf : ∀ {w : World}, T w → UtfIs w
instance : HasUtf UtfIs := ⟨fun h => h⟩
/-- Both. -/
def UniIs (w : World) : Prop := StrIs w ∧ UtfIs w
instance : Stays UniIs := ⟨fun h hb => ⟨Stays.below h.1 hb, Stays.below h.2 hb⟩⟩
instance : HasStr UniIs := ⟨fun h => h.1⟩
instance : HasUtf UniIs := ⟨fun h => h.2⟩
theorem valid_calls (s : ByteArray) (w : World) (hs : s.size ≤ 9223372036854775807) (hT : UtfIs w) :
    Calls Tryd.prog 16 #[.string s] w fun e w' => e = .returned (.bool (Lib.validD s.data.toList)) ∧ Below w.heap.size w w' :=
  Any.utf8_ValidString Tryd.laysValid s w hs hT
end Go.Proofs.YtkhbmkccbhkolaaDoor
