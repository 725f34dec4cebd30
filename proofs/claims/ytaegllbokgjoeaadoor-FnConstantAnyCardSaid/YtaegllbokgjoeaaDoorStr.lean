/- (*strings.Builder).String, of the builder that lies within a rustState: the bytes that were written. -/
import Derived.Test.YtaegllbokgjoeaaDoorSt
import Derived.Handy
import Derived.Lib.UnsafeStr
import Derived.RegionTactic
import Derived.Lib.Hide
namespace Go.Proofs.YtaegllbokgjoeaaDoor
set_option linter.unusedVariables false
set_option linter.unusedSimpArgs false
open Go.RowKit

theorem Tryd.cells5 : Tryd.prog.cellsOf 5 = 1 := by kernel_rfl
theorem bs_nil : bs [] = ByteArray.empty := rfl

set_option maxHeartbeats 2000000 in
set_option maxRecDepth 100000 in
/-- String: the block of the state stays as it is. -/
theorem string_calls (b : Nat) (s : RS) (w : World) (h : RustAt b s w) :
    Calls Tryd.prog 27 #[.pointer (some ⟨b, 3, none⟩)] w fun e w' => e = .returned (.string (bs s.out)) ∧ w'.heap[b]? = w.heap[b]? ∧ Below b w w' := by
  have hlt := h.lt
  obtain ⟨_, p, v, hbk, _, hown, hne⟩ := h
  have C1 : ∀ {V : Value}, v = V → w.drew.cell? ⟨b, 4, none⟩ = some V := by
    rintro V rfl
    have : w.drew.heap[b]? = some (.cells (s.cells (.pointer p) v) 63 (0, 0)) := hbk
    rw [Lib.cell_of_heap this]; rfl
  rcases hown.2 with ⟨hv, h0⟩ | ⟨g, cap, cur, hv, hbg, hg, hnc, hcm, hcs, htake⟩
  · have c1 := C1 hv
    clear C1
    have ho : s.out = [] := List.length_eq_zero_iff.1 (by simpa using h0)
    rw [ho]
    have hUS : ∀ W : World, (Builtin.unsafeString_ #[72, 3] 9 #[.pointer none, .int .i64 0]).run Tryd.prog W = .ok (.string .empty) W := fun W => Lib.run_unsafeString_none W _ _ _ none
    have hSD : (Builtin.unsafeSliceData_ #[46] 72 #[.slice none 0 0]).run Tryd.prog w.drew = .ok (.pointer none) w.drew := rfl
    clear ho h0 hown hbk
    go_enter Tryd.func27, Tryd.ntmps27
    go_wp2
    go_region
    all_goals (go_wp2; go_ret; exact ⟨rfl, rfl, Below.drew (Below.refl b w)⟩)
  · have c1 := C1 hv
    clear C1
    have hgb : g ≠ b := fun e => hne (by rw [hv, e]; rfl)
    have hUS0 : ∀ (W : World) (q : Option Addr), (Builtin.unsafeString_ #[72, 3] 9 #[.pointer q, .int .i64 0]).run Tryd.prog W = .ok (.string .empty) W := fun W q => Lib.run_unsafeString_none W _ _ _ q
    by_cases ho : s.out = []
    · rw [ho] at c1
      simp only [List.length_nil] at c1
      by_cases hc0 : cap = 0
      · have hcc : cur.size = 0 := by rw [hcs, hc0]
        rw [hc0] at c1
        have hSD : (Builtin.unsafeSliceData_ #[46] 72 #[.slice (some ⟨g, 0, none⟩) 0 0]).run Tryd.prog w.drew = .ok (.pointer (some ⟨w.drew.heap.size, 0, none⟩)) (w.drew.alloc (.view ⟨g, 0, none⟩ 5)) :=
          Lib.run_unsafeSliceData_zero w.drew _ _ 5 Tryd.underlying72 ⟨g, 0, none⟩ 0 (5, cur.size) (by have hg' : w.drew.heap[g]? = some (.cells cur 5 (0, 0)) := hg; simp [World.shape?, hg'])
        have c2 : (w.drew.alloc (.view ⟨g, 0, none⟩ 5)).cell? ⟨b, 4, none⟩ = some (.slice (some ⟨g, 0, none⟩) 0 0) := by
          rw [World.cell?_of_block (w := w.drew) (Lib.alloc_old w.drew _ b hlt)]; exact c1
        have c3 : (w.alloc (.view ⟨g, 0, none⟩ 5)).drew.cell? ⟨b, 4, none⟩ = some (.slice (some ⟨g, 0, none⟩) 0 0) := c2
        have c0 : w.cell? ⟨b, 4, none⟩ = some (.slice (some ⟨g, 0, none⟩) 0 0) := c1
        have hkeep : ∀ o, (w.alloc o).heap[b]? = w.heap[b]? := fun o => Lib.alloc_old w o b hlt
        have HK := Lib.hid hkeep
        rw [ho]
        clear hown hbk hkeep hnc hcm hcs htake hcc hc0 ho hv hg hgb
        go_enter Tryd.func27, Tryd.ntmps27
        go_wp2
        go_region
        all_goals (go_wp2; go_ret; exact ⟨rfl, HK.out _, (Below.drew (Below.refl b w)).alloc (Nat.le_of_lt hlt) _⟩)
      · have hSD : (Builtin.unsafeSliceData_ #[46] 72 #[.slice (some ⟨g, 0, none⟩) 0 cap]).run Tryd.prog w.drew = .ok (.pointer (some ⟨g, 0, none⟩)) w.drew :=
          Lib.run_unsafeSliceData_row _ _ _ _ _ _ hc0
        rw [ho]
        clear hown hbk hnc hcm hcs htake hc0 ho hv hg hgb
        go_enter Tryd.func27, Tryd.ntmps27
        go_wp2
        go_region
        all_goals (go_wp2; go_ret; exact ⟨rfl, rfl, Below.drew (Below.refl b w)⟩)
    · have hl0 : s.out.length ≠ 0 := fun e => ho (List.length_eq_zero_iff.1 e)
      have hSD : (Builtin.unsafeSliceData_ #[46] 72 #[.slice (some ⟨g, 0, none⟩) s.out.length cap]).run Tryd.prog w.drew = .ok (.pointer (some ⟨g, 0, none⟩)) w.drew :=
        Lib.run_unsafeSliceData_row _ _ _ _ _ _ (by omega)
      have hUS : (Builtin.unsafeString_ #[72, 3] 9 #[.pointer (some ⟨g, 0, none⟩), .int .i64 s.out.length]).run Tryd.prog w.drew = .ok (.string (bs s.out)) (w.drew.freeze ⟨g, 0, none⟩ s.out.length) := by
        refine Lib.run_unsafeString_row w.drew 72 3 9 5 Tryd.underlying72 Tryd.cells5 g cur.size (by have hg' : w.drew.heap[g]? = some (.cells cur 5 (0, 0)) := hg; simp [World.shape?, hg']) s.out ho (by omega) (by unfold maxLen at hcm; omega) ?_
        intro j x hx
        have hv2 : v.ownBlock = some g := by rw [hv]; rfl
        have := hown.cells (g := g) hv2 j (.int .u8 x.toNat) (by simp [Lib.byteCells, hx])
        exact this
      have hkeep : (w.drew.freeze ⟨g, 0, none⟩ s.out.length).heap[b]? = w.heap[b]? := by
        unfold World.freeze
        rw [if_neg hl0]
        simp only [Array.getElem?_modify]
        rw [if_neg hgb]; rfl
      have HK := Lib.hid hkeep
      clear hown hbk hkeep hnc hcm hcs htake ho hv hg hgb
      go_enter Tryd.func27, Tryd.ntmps27
      go_wp2
      go_region
      all_goals (go_wp2; go_ret; exact ⟨rfl, HK.out, Lib.below_freeze (Below.drew (Below.refl b w)) (p := ⟨g, 0, none⟩) hbg _⟩)
end Go.Proofs.YtaegllbokgjoeaaDoor
