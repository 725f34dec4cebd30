/- strconv.Itoa, in the form of a printed function; the table that it reads. -/
import Derived.Test.YtkhbmkccbhkolaaDoorShelf
import Derived.Test.YtkhbmkccbhkolaaDoorStays
import Derived.Test.YtkhbmkccbhkolaaDoorSt
namespace Go.Proofs.YtkhbmkccbhkolaaDoor
set_option linter.unusedVariables false
set_option linter.unusedSimpArgs false
open Go.RowKit Go.Sort

/-- The library's table of powers of ten lies as the program's text lays it. -/
def StrIs (w : World) : Prop := Lib.TabIs Tryd.prog w "internal/strconv.uint64pow10" .u64 Lib.pow10Tab
theorem gPow : Tryd.prog.globalNamed "internal/strconv.uint64pow10" = some 3 := by kernel_rfl
theorem tab_below' {n : String} {g : Nat} (hg : Tryd.prog.globalNamed n = some g) {k : IntKind} {zs : List Int} {w w' : World} (h : Lib.TabIs Tryd.prog w n k zs) (hb : Below w.heap.size w w') : Lib.TabIs Tryd.prog w' n k zs := by
  unfold Lib.TabIs World.var? at h ⊢
  rw [hg] at h ⊢
  simp only [Option.bind_some] at h ⊢
  have hlt : g < w.heap.size := by
    rcases Nat.lt_or_ge g w.heap.size with h' | h'
    · exact h'
    · rw [Array.getElem?_eq_none h'] at h; cases h
  rw [hb.block g hlt]
  exact h
theorem StrIs.below {w w' : World} (h : StrIs w) (hb : Below w.heap.size w w') : StrIs w' := tab_below' gPow h hb
instance : Stays StrIs := ⟨fun h hb => h.below hb⟩
class HasStr (T : World → Prop) : Prop where
  str : ∀ {w : World}, T w → StrIs w
instance : HasStr StrIs := ⟨fun h => h⟩

theorem below_grow (w : World) (k : Nat) (os : Array Obj) : Below w.heap.size w (grow (w.drewN k) os) :=
  ⟨rfl, rfl, rfl, by show w.heap.size ≤ (w.heap ++ os).size; simp, fun i hi => by show (w.heap ++ os)[i]? = w.heap[i]?; rw [Array.getElem?_append_left hi]⟩

def strconv_Itoa.f (a0 : Int) : Option ByteArray :=
  if -9223372036854775808 ≤ a0 ∧ a0 ≤ 9223372036854775807 then some (bs (Lib.itoa a0)) else none
theorem strconv_Itoa.calls {T_ : World → Prop} [HasStr T_] (a0 : Int) (r : ByteArray) (w : World) (hT_ : T_ w) (h : strconv_Itoa.f a0 = some r) :
    Calls Tryd.prog 33 #[.int .i64 a0] w fun e w' => e = .returned (.string r) ∧ Below w.heap.size w w' := by
  unfold strconv_Itoa.f at h
  by_cases hs : -9223372036854775808 ≤ a0 ∧ a0 ≤ 9223372036854775807
  · rw [if_pos hs] at h
    injection h with h
    subst h
    refine (Tryd.strconv_Itoa a0 hs.1 hs.2 w (HasStr.str hT_)).mono ?_
    rintro e w' ⟨rfl, k, os, rfl⟩
    exact ⟨rfl, below_grow _ _ _⟩
  · rw [if_neg hs] at h; cases h
end Go.Proofs.YtkhbmkccbhkolaaDoor
