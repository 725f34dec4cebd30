/- ZZDecimal and the thin package's Decimal. The thin package's Decimal, in the form of a printed function. -/
import Derived.Test.YtkhbmkccbhkolaaDoorRun
import Derived.Shelf.Abstract
namespace Go.Proofs.YtkhbmkccbhkolaaDoor
set_option linter.unusedVariables false
set_option linter.unusedSimpArgs false
open Go.RowKit

/-- A store below the state. -/
theorem RustAt.setLow {b N : Nat} {s : RS} {w : World} (h : RustAt b s w) (hN : N < b) (x : Value) : RustAt b s (w.setCell ⟨N, 0, none⟩ x) := by
  obtain ⟨hoff, p, v, hb, hp, hown, hne⟩ := h
  exact ⟨hoff, p, v, by rw [Below.heap_setCell _ _ _ _ (by show b ≠ N; omega)]; exact hb, hp, ownsRow_setCell_below hown (by show N < b; exact hN) x, hne⟩

theorem stored {b N : Nat} {s : RS} {w0 w1 w2 : World} {x v : Value} {T : TypeId} (hN : N < b) (h0 : Below N w0 w1) (h1 : w1.heap[N]? = some (.cells #[x] T (0, 0))) (hr : RustAt b s w2) (hb : Below b w1 w2) :
    RustAt b s (w2.setCell ⟨N, 0, none⟩ v) ∧ Mid (N + 1) b w1 (w2.setCell ⟨N, 0, none⟩ v) ∧ Below N w0 (w2.setCell ⟨N, 0, none⟩ v) ∧ (w2.setCell ⟨N, 0, none⟩ v).heap[N]? = some (.cells #[v] T (0, 0)) := by
  have e : w2.heap[N]? = some (.cells #[x] T (0, 0)) := (hb.block N hN).trans h1
  refine ⟨hr.setLow hN v, ?_, (h0.trans (hb.mono (by omega))).setCell (p := ⟨N, 0, none⟩) (Nat.le_refl _) _, ?_⟩
  · intro k hk hk2
    rw [Below.heap_setCell _ _ _ _ (by show k ≠ N; omega)]
    exact hb.block k hk2
  · simp [World.setCell, Array.getElem?_modify, e]

/-- What is kept of a variable that a closure writes. -/
def Var (N : Nat) (w0 : World) (T : TypeId) (v : Value) (w : World) : Prop := Below N w0 w ∧ w.heap[N]? = some (.cells #[v] T (0, 0))
theorem Var.later {N : Nat} {w0 : World} {T : TypeId} {v : Value} (a c : World) (h : Below (N + 1) a c) (k : Var N w0 T v a) : Var N w0 T v c :=
  ⟨k.1.trans (h.mono (by omega)), (h.block N (by omega)).trans k.2⟩
theorem Var.cell {N : Nat} {w0 w : World} {T : TypeId} {v : Value} (k : Var N w0 T v w) : w.cell? ⟨N, 0, none⟩ = some v := by rw [Lib.cell_of_heap k.2]; rfl
theorem Var.free {N : Nat} {w0 w : World} {T : TypeId} {v : Value} (k : Var N w0 T v w) : w.frozen? ⟨N, 0, none⟩ = false := Lib.frozen_of_heap k.2 0

theorem Var.new (w : World) (T : TypeId) (x : Value) : Var w.heap.size w T x (w.alloc (.cells #[x] T)) :=
  ⟨(Below.refl _ w).alloc (Nat.le_refl _) _, heap_alloc_new w _⟩

end Go.Proofs.YtkhbmkccbhkolaaDoor
namespace Go.Proofs.YtkhbmkccbhkolaaDoor
set_option linter.unusedVariables false
set_option linter.unusedSimpArgs false
open Go.RowKit

def impl_Decimal.f (a0 : ByteArray) : Option (Int × ByteArray × Bool) :=
  if a0.size ≤ 4611686018427387904 then
    match Dm.decimal a0.data.toList with
    | some (n, r) => some (n, bs r, true)
    | none => some (0, ⟨#[]⟩, false)
  else none

theorem bs_data (s : ByteArray) : bs s.data.toList = s := by
  apply ByteArray.ext
  show s.data.toList.toArray = s.data
  simp

end Go.Proofs.YtkhbmkccbhkolaaDoor
