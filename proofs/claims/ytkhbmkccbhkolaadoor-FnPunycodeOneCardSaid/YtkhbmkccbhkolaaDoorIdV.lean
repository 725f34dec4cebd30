/- utf8.ValidString at this program, and the tables that it reads. -/
import Derived.Test.YtkhbmkccbhkolaaDoorItoa
import Derived.Shelf.Unicode.ValidAny
import Derived.Lib.OthersKept
import Derived.Lib.TrimUEq
import Derived.Test.YtkhbmkccbhkolaaDoorUtf
open Go Go.Proofs Go.Shelf
namespace Go.Proofs
open Go.RowKit Go.Shelf Go.Lib
def Tryd.laysValid_ren : Go.Shelf.Ren := ⟨fun | 196 => 16 | 259 => 26 | n => n, fun | 9 => 9 | 4 => 4 | 3 => 3 | 5 => 5 | 12 => 12 | 119 => 48 | 0 => 0 | 46 => 52 | 139 => 51 | 138 => 50 | 53 => 35 | n => n, fun | 3 => 0 | 4 => 1 | n => n⟩
theorem Tryd.laysValid : Go.Proofs.Lays.n196 Tryd.prog Tryd.laysValid_ren := {
  mixed := by kernel_rfl
  f196 := Tryd.func16.trans (congrArg some (by kernel_rfl))
  f259 := Tryd.func26.trans (congrArg some (by kernel_rfl))
  t0 := Tryd.underlying0
  a0 := Tryd.isAgg0
  z0 := Tryd.sizeOf0
  v0 := Tryd.zeroValue0
  t3 := Tryd.underlying3
  a3 := Tryd.isAgg3
  z3 := Tryd.sizeOf3
  v3 := Tryd.zeroValue3
  t4 := Tryd.underlying4
  a4 := Tryd.isAgg4
  z4 := Tryd.sizeOf4
  v4 := Tryd.zeroValue4
  t5 := Tryd.underlying5
  a5 := Tryd.isAgg5
  z5 := Tryd.sizeOf5
  v5 := Tryd.zeroValue5
  t9 := Tryd.underlying9
  a9 := Tryd.isAgg9
  z9 := Tryd.sizeOf9
  v9 := Tryd.zeroValue9
  t12 := Tryd.underlying12
  a12 := Tryd.isAgg12
  z12 := Tryd.sizeOf12
  v12 := Tryd.zeroValue12
  t46 := Tryd.underlying52
  a46 := Tryd.isAgg52
  z46 := Tryd.sizeOf52
  v46 := Tryd.zeroValue52
  t53 := Tryd.underlying35
  a53 := Tryd.isAgg35
  z53 := Tryd.sizeOf35
  v53 := Tryd.zeroValue35
  t119 := Tryd.underlying48
  a119 := Tryd.isAgg48
  z119 := Tryd.sizeOf48
  t138 := Tryd.underlying50
  a138 := Tryd.isAgg50
  z138 := Tryd.sizeOf50
  v138 := Tryd.zeroValue50
  t139 := Tryd.underlying51
  a139 := Tryd.isAgg51
  z139 := Tryd.sizeOf51
  v139 := Tryd.zeroValue51
  g3 := by kernel_rfl
  g4 := by kernel_rfl }
end Go.Proofs
namespace Go.Proofs.YtkhbmkccbhkolaaDoor
set_option linter.unusedVariables false
set_option linter.unusedSimpArgs false
open Go.RowKit Go.Shelf Go.Lib
/-- The library's tables of UTF-8 lie as the program's text lays them. -/
def UtfIs (w : World) : Prop := Lib.Utf8Tabs (Tryd.laysValid_ren.g 3) (Tryd.laysValid_ren.g 4) w
instance : Stays UtfIs := ⟨fun h hb => Utf8Tabs_below h hb⟩
class HasUtf (T : World → Prop) : Prop where
  utf : ∀ {w : World}, T w → UtfIs w
instance : HasUtf UtfIs := ⟨fun h => h⟩
/-- Both. -/
def UniIs (w : World) : Prop := StrIs w ∧ UtfIs w
instance : Stays UniIs := ⟨fun h hb => ⟨Stays.below h.1 hb, Stays.below h.2 hb⟩⟩
instance : HasStr UniIs := ⟨fun h => h.1⟩
instance : HasUtf UniIs := ⟨fun h => h.2⟩
theorem valid_calls (s : ByteArray) (w : World) (hs : s.size ≤ 9223372036854775807) (hT : UtfIs w) :
    Calls Tryd.prog 16 #[.string s] w fun e w' => e = .returned (.bool (Lib.validD s.data.toList)) ∧ Below w.heap.size w w' :=
  Any.utf8_ValidString Tryd.laysValid s w hs hT
end Go.Proofs.YtkhbmkccbhkolaaDoor
