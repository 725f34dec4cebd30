/- Written by a program of this session (wip/tools/myprint.py) with the kit's print: contracts of the functions that one statement reaches; functions that are proved by hand are taken as printed. Conditions: none. -/
import Derived.Test.YtaegllbokgjoeaaDoorPconstantHerex0
namespace Go.Proofs.YtaegllbokgjoeaaDoor.PconstantHere
open Go.RowKit Go.Proofs.YtaegllbokgjoeaaDoorW.PrintWords Go.Proofs.YtaegllbokgjoeaaDoorW.PrintLast Go.Proofs.YtaegllbokgjoeaaDoorW.PrintMore
attribute [local go_sem] max2_int min2_int max_two min_two max_three min_three max_four min_four   -- for this text's walks alone
set_option linter.unusedVariables false
set_option linter.unusedSimpArgs false

/-- A state of type 34 at block g of W; what its slices lead to came in by w0. -/
def IsS34 (w0 W : World) (g : Nat) (f0 : ByteArray) (f1 : Int) (f2 : List Int) (f3 : Int) (f4 : Int) (f5 : Int) (f6 : Bool) (f7 : Bool) (f8 : Int) (f9 : Bool) : Prop := ∃ A2 c2, W.heap[g]? = some (.cells #[.string f0, .int .i64 f1, .slice A2 f2.length c2, .int .i64 f3, .int .i64 f4, .int .i64 f5, .bool f6, .bool f7, .int .i64 f8, .bool f9] 34 (0, 0)) ∧ w0.heap.size ≤ g ∧ Kd.C (Kd.int .i64) w0 A2 f2.length f2
theorem IsS34.grown {w0 W : World} {g : Nat} {f0 : ByteArray} {f1 : Int} {f2 : List Int} {f3 : Int} {f4 : Int} {f5 : Int} {f6 : Bool} {f7 : Bool} {f8 : Int} {f9 : Bool} {W1 : World} {row : Option Nat} (h : IsS34 w0 W g f0 f1 f2 f3 f4 f5 f6 f7 f8 f9) (hw : W.grownBy W1 row) (hne : some g ≠ row) : IsS34 w0 W1 g f0 f1 f2 f3 f4 f5 f6 f7 f8 f9 := by
  obtain ⟨A2, c2, hb, hg, hr2⟩ := h
  exact ⟨A2, c2, blk_grown hb hw hne, hg, hr2⟩
theorem IsS34.own_neN {w0 W : World} {g : Nat} {f0 : ByteArray} {f1 : Int} {f2 : List Int} {f3 : Int} {f4 : Int} {f5 : Int} {f6 : Bool} {f7 : Bool} {f8 : Int} {f9 : Bool} {α : Type} {d : Kd α} {e : Nat} {base : Nat} {ok : Nat → Prop} {v : Value} {xs : List α} (h : IsS34 w0 W g f0 f1 f2 f3 f4 f5 f6 f7 f8 f9) (ho : Kd.N d e W base ok v xs) (ht : e ≠ 34) : some g ≠ v.ownBlock := by
  obtain ⟨A2, c2, hb, hg, hr2⟩ := h
  exact Kd.N_ne ho hb ht
theorem IsS34.fresh {w0 W : World} {g : Nat} {f0 : ByteArray} {f1 : Int} {f2 : List Int} {f3 : Int} {f4 : Int} {f5 : Int} {f6 : Bool} {f7 : Bool} {f8 : Int} {f9 : Bool} (h : IsS34 w0 W g f0 f1 f2 f3 f4 f5 f6 f7 f8 f9) : ∀ k, W.heap.size ≤ k → k ≠ g := by
  obtain ⟨A2, c2, hb, hg, hr2⟩ := h
  exact Kd.freshB hb
theorem IsS34.kept {w0 W : World} {g : Nat} {f0 : ByteArray} {f1 : Int} {f2 : List Int} {f3 : Int} {f4 : Int} {f5 : Int} {f6 : Bool} {f7 : Bool} {f8 : Int} {f9 : Bool} {W1 : World} {S : Nat → Prop} (h : IsS34 w0 W g f0 f1 f2 f3 f4 f5 f6 f7 f8 f9) (hk : Kept W W1 S) (hne : ¬ S g) : IsS34 w0 W1 g f0 f1 f2 f3 f4 f5 f6 f7 f8 f9 := by
  obtain ⟨A2, c2, hb, hg, hr2⟩ := h
  exact ⟨A2, c2, blk_kept hb hk hne, hg, hr2⟩
theorem IsS34.below {w0 W : World} {g : Nat} {f0 : ByteArray} {f1 : Int} {f2 : List Int} {f3 : Int} {f4 : Int} {f5 : Int} {f6 : Bool} {f7 : Bool} {f8 : Int} {f9 : Bool} {W1 : World} (h : IsS34 w0 W g f0 f1 f2 f3 f4 f5 f6 f7 f8 f9) (hw : Below W.heap.size W W1) : IsS34 w0 W1 g f0 f1 f2 f3 f4 f5 f6 f7 f8 f9 := h.grown (grown_of_below hw none) (by simp)
theorem IsS34.alloc {w0 W : World} {g : Nat} {f0 : ByteArray} {f1 : Int} {f2 : List Int} {f3 : Int} {f4 : Int} {f5 : Int} {f6 : Bool} {f7 : Bool} {f8 : Int} {f9 : Bool} (h : IsS34 w0 W g f0 f1 f2 f3 f4 f5 f6 f7 f8 f9) (o : Obj) : IsS34 w0 (W.alloc o) g f0 f1 f2 f3 f4 f5 f6 f7 f8 f9 := h.below (below_alloc (Below.refl _ _) o)
theorem IsS34.drewN {w0 W : World} {g : Nat} {f0 : ByteArray} {f1 : Int} {f2 : List Int} {f3 : Int} {f4 : Int} {f5 : Int} {f6 : Bool} {f7 : Bool} {f8 : Int} {f9 : Bool} (h : IsS34 w0 W g f0 f1 f2 f3 f4 f5 f6 f7 f8 f9) (m : Nat) : IsS34 w0 (W.drewN m) g f0 f1 f2 f3 f4 f5 f6 f7 f8 f9 := h
theorem IsS34.drew {w0 W : World} {g : Nat} {f0 : ByteArray} {f1 : Int} {f2 : List Int} {f3 : Int} {f4 : Int} {f5 : Int} {f6 : Bool} {f7 : Bool} {f8 : Int} {f9 : Bool} (h : IsS34 w0 W g f0 f1 f2 f3 f4 f5 f6 f7 f8 f9) : IsS34 w0 W.drew g f0 f1 f2 f3 f4 f5 f6 f7 f8 f9 := h
theorem IsS34.at_ {w0 W : World} {g : Nat} {f0 : ByteArray} {f1 : Int} {f2 : List Int} {f3 : Int} {f4 : Int} {f5 : Int} {f6 : Bool} {f7 : Bool} {f8 : Int} {f9 : Bool} {w' : World} {m : Nat} (hq : W.drewN m = w') (h : IsS34 w0 W g f0 f1 f2 f3 f4 f5 f6 f7 f8 f9) : IsS34 w0 w' g f0 f1 f2 f3 f4 f5 f6 f7 f8 f9 := by subst hq; exact IsS34.drewN h m
theorem IsS34.apart {w0 W : World} {g : Nat} {f0 : ByteArray} {f1 : Int} {f2 : List Int} {f3 : Int} {f4 : Int} {f5 : Int} {f6 : Bool} {f7 : Bool} {f8 : Int} {f9 : Bool} {α : Type} {d : Kd α} {e : Nat} {base : Nat} {ok : Nat → Prop} {v : Value} {xs : List α} (h : IsS34 w0 W g f0 f1 f2 f3 f4 f5 f6 f7 f8 f9) (ho : d.R e W base ok v xs) (ht : ∀ q, q ∈ e :: d.E → q ≠ 34) : d.R e W base (fun k => ok k ∧ k ≠ g) v xs := by
  obtain ⟨A2, c2, hb, hg, hr2⟩ := h
  exact Kd.R_types ho hb ht
theorem IsS34.own_ne {w0 W : World} {g : Nat} {f0 : ByteArray} {f1 : Int} {f2 : List Int} {f3 : Int} {f4 : Int} {f5 : Int} {f6 : Bool} {f7 : Bool} {f8 : Int} {f9 : Bool} {α : Type} {d : Kd α} {e : Nat} {base : Nat} {ok : Nat → Prop} {v : Value} {xs : List α} (h : IsS34 w0 W g f0 f1 f2 f3 f4 f5 f6 f7 f8 f9) (ho : d.R e W base ok v xs) (ht : e ≠ 34) : some g ≠ v.ownBlock := by
  obtain ⟨A2, c2, hb, hg, hr2⟩ := h
  exact Kd.R_ne ho hb ht
theorem IsS34.apartQ {w0 W : World} {g : Nat} {f0 : ByteArray} {f1 : Int} {f2 : List Int} {f3 : Int} {f4 : Int} {f5 : Int} {f6 : Bool} {f7 : Bool} {f8 : Int} {f9 : Bool} {α : Type} {d : Kd α} {e : Nat} {base : Nat} {ok : Nat → Prop} {v : Value} {xs : List α} (h : IsS34 w0 W g f0 f1 f2 f3 f4 f5 f6 f7 f8 f9) (ho : d.Q e W base ok v xs) (ht : ∀ q, q ∈ e :: d.E → q ≠ 34) : d.Q e W base (fun k => ok k ∧ k ≠ g) v xs := by
  obtain ⟨A2, c2, hb, hg, hr2⟩ := h
  exact Kd.Q_types ho hb ht
theorem IsS34.own_neQ {w0 W : World} {g : Nat} {f0 : ByteArray} {f1 : Int} {f2 : List Int} {f3 : Int} {f4 : Int} {f5 : Int} {f6 : Bool} {f7 : Bool} {f8 : Int} {f9 : Bool} {α : Type} {d : Kd α} {e : Nat} {base : Nat} {ok : Nat → Prop} {v : Value} {xs : List α} (h : IsS34 w0 W g f0 f1 f2 f3 f4 f5 f6 f7 f8 f9) (ho : d.Q e W base ok v xs) (ht : e ≠ 34) : some g ≠ v.ownBlock := by
  obtain ⟨A2, c2, hb, hg, hr2⟩ := h
  exact Kd.Q_ne ho hb ht
theorem IsS34.apartS {w0 W : World} {g : Nat} {f0 : ByteArray} {f1 : Int} {f2 : List Int} {f3 : Int} {f4 : Int} {f5 : Int} {f6 : Bool} {f7 : Bool} {f8 : Int} {f9 : Bool} {α : Type} {d : Kd α} {e : Nat} {base : Nat} {ok : Nat → Prop} {v : Value} {xs : List α} (h : IsS34 w0 W g f0 f1 f2 f3 f4 f5 f6 f7 f8 f9) (ho : d.S e W base ok v xs) (ht : ∀ q, q ∈ e :: d.E → q ≠ 34) : d.S e W base (fun k => ok k ∧ k ≠ g) v xs := by
  obtain ⟨A2, c2, hb, hg, hr2⟩ := h
  exact Kd.S_types ho hb ht
theorem IsS34.own_neS {w0 W : World} {g : Nat} {f0 : ByteArray} {f1 : Int} {f2 : List Int} {f3 : Int} {f4 : Int} {f5 : Int} {f6 : Bool} {f7 : Bool} {f8 : Int} {f9 : Bool} {α : Type} {d : Kd α} {e : Nat} {base : Nat} {ok : Nat → Prop} {v : Value} {xs : List α} (h : IsS34 w0 W g f0 f1 f2 f3 f4 f5 f6 f7 f8 f9) (ho : d.S e W base ok v xs) (ht : e ≠ 34) : some g ≠ v.ownBlock := by
  obtain ⟨A2, c2, hb, hg, hr2⟩ := h
  exact Kd.S_ne ho hb ht
theorem IsS34.lt {w0 W : World} {g : Nat} {f0 : ByteArray} {f1 : Int} {f2 : List Int} {f3 : Int} {f4 : Int} {f5 : Int} {f6 : Bool} {f7 : Bool} {f8 : Int} {f9 : Bool} (h : IsS34 w0 W g f0 f1 f2 f3 f4 f5 f6 f7 f8 f9) : g < W.heap.size := by
  obtain ⟨A2, c2, hb, hg, hr2⟩ := h
  exact blk_lt hb
theorem IsS34.ge {w0 W : World} {g : Nat} {f0 : ByteArray} {f1 : Int} {f2 : List Int} {f3 : Int} {f4 : Int} {f5 : Int} {f6 : Bool} {f7 : Bool} {f8 : Int} {f9 : Bool} (h : IsS34 w0 W g f0 f1 f2 f3 f4 f5 f6 f7 f8 f9) : w0.heap.size ≤ g := by
  obtain ⟨A2, c2, hb, hg, hr2⟩ := h
  exact hg
theorem IsS34.ne_blk {w0 W : World} {g : Nat} {f0 : ByteArray} {f1 : Int} {f2 : List Int} {f3 : Int} {f4 : Int} {f5 : Int} {f6 : Bool} {f7 : Bool} {f8 : Int} {f9 : Bool} {a : Nat} {cs : Array Value} {t : TypeId} {fr : Nat × Nat} (h : IsS34 w0 W g f0 f1 f2 f3 f4 f5 f6 f7 f8 f9) (hb2 : W.heap[a]? = some (.cells cs t fr)) (ht : t ≠ 34) : g ≠ a := by
  obtain ⟨A2, c2, hb, hg, hr2⟩ := h
  rintro rfl
  rw [hb] at hb2
  injection hb2 with hb2
  injection hb2 with _ ht2
  exact ht ht2.symm
theorem IsS34.far {w0 W : World} {g : Nat} {f0 : ByteArray} {f1 : Int} {f2 : List Int} {f3 : Int} {f4 : Int} {f5 : Int} {f6 : Bool} {f7 : Bool} {f8 : Int} {f9 : Bool} {p : Addr} (h : IsS34 w0 W g f0 f1 f2 f3 f4 f5 f6 f7 f8 f9) (hne : g ≠ p.block) (u : Value) : IsS34 w0 (W.setCell p u) g f0 f1 f2 f3 f4 f5 f6 f7 f8 f9 := by
  obtain ⟨A2, c2, hb, hg, hr2⟩ := h
  exact ⟨A2, c2, blk_far hb hne u, hg, hr2⟩
theorem cellS34_0 {W : World} {g : Nat} {A2 : Option Addr} {c2 : Nat} {f0 : ByteArray} {f1 : Int} {f2 : List Int} {f3 : Int} {f4 : Int} {f5 : Int} {f6 : Bool} {f7 : Bool} {f8 : Int} {f9 : Bool} (h : W.heap[g]? = some (.cells #[.string f0, .int .i64 f1, .slice A2 f2.length c2, .int .i64 f3, .int .i64 f4, .int .i64 f5, .bool f6, .bool f7, .int .i64 f8, .bool f9] 34 (0, 0))) : W.cell? ⟨g, 0, none⟩ = some (.string f0) := (blk_cell h 0).trans rfl
theorem IsS34.set_0 {w0 W : World} {g : Nat} {f0 : ByteArray} {f1 : Int} {f2 : List Int} {f3 : Int} {f4 : Int} {f5 : Int} {f6 : Bool} {f7 : Bool} {f8 : Int} {f9 : Bool} (h : IsS34 w0 W g f0 f1 f2 f3 f4 f5 f6 f7 f8 f9) (x : ByteArray) : IsS34 w0 (W.setCell ⟨g, 0, none⟩ (.string x)) g x f1 f2 f3 f4 f5 f6 f7 f8 f9 := by
  obtain ⟨A2, c2, hb, hg, hr2⟩ := h
  exact ⟨A2, c2, by simpa using blk_set hb 0 (.string x), hg, hr2⟩
theorem cellS34_1 {W : World} {g : Nat} {A2 : Option Addr} {c2 : Nat} {f0 : ByteArray} {f1 : Int} {f2 : List Int} {f3 : Int} {f4 : Int} {f5 : Int} {f6 : Bool} {f7 : Bool} {f8 : Int} {f9 : Bool} (h : W.heap[g]? = some (.cells #[.string f0, .int .i64 f1, .slice A2 f2.length c2, .int .i64 f3, .int .i64 f4, .int .i64 f5, .bool f6, .bool f7, .int .i64 f8, .bool f9] 34 (0, 0))) : W.cell? ⟨g, 1, none⟩ = some (.int .i64 f1) := (blk_cell h 1).trans rfl
theorem IsS34.set_1 {w0 W : World} {g : Nat} {f0 : ByteArray} {f1 : Int} {f2 : List Int} {f3 : Int} {f4 : Int} {f5 : Int} {f6 : Bool} {f7 : Bool} {f8 : Int} {f9 : Bool} (h : IsS34 w0 W g f0 f1 f2 f3 f4 f5 f6 f7 f8 f9) (x : Int) : IsS34 w0 (W.setCell ⟨g, 1, none⟩ (.int .i64 x)) g f0 x f2 f3 f4 f5 f6 f7 f8 f9 := by
  obtain ⟨A2, c2, hb, hg, hr2⟩ := h
  exact ⟨A2, c2, by simpa using blk_set hb 1 (.int .i64 x), hg, hr2⟩
theorem cellS34_2 {W : World} {g : Nat} {A2 : Option Addr} {c2 : Nat} {f0 : ByteArray} {f1 : Int} {f2 : List Int} {f3 : Int} {f4 : Int} {f5 : Int} {f6 : Bool} {f7 : Bool} {f8 : Int} {f9 : Bool} (h : W.heap[g]? = some (.cells #[.string f0, .int .i64 f1, .slice A2 f2.length c2, .int .i64 f3, .int .i64 f4, .int .i64 f5, .bool f6, .bool f7, .int .i64 f8, .bool f9] 34 (0, 0))) : W.cell? ⟨g, 2, none⟩ = some (.slice A2 f2.length c2) := (blk_cell h 2).trans rfl
theorem cellS34_3 {W : World} {g : Nat} {A2 : Option Addr} {c2 : Nat} {f0 : ByteArray} {f1 : Int} {f2 : List Int} {f3 : Int} {f4 : Int} {f5 : Int} {f6 : Bool} {f7 : Bool} {f8 : Int} {f9 : Bool} (h : W.heap[g]? = some (.cells #[.string f0, .int .i64 f1, .slice A2 f2.length c2, .int .i64 f3, .int .i64 f4, .int .i64 f5, .bool f6, .bool f7, .int .i64 f8, .bool f9] 34 (0, 0))) : W.cell? ⟨g, 3, none⟩ = some (.int .i64 f3) := (blk_cell h 3).trans rfl
theorem IsS34.set_3 {w0 W : World} {g : Nat} {f0 : ByteArray} {f1 : Int} {f2 : List Int} {f3 : Int} {f4 : Int} {f5 : Int} {f6 : Bool} {f7 : Bool} {f8 : Int} {f9 : Bool} (h : IsS34 w0 W g f0 f1 f2 f3 f4 f5 f6 f7 f8 f9) (x : Int) : IsS34 w0 (W.setCell ⟨g, 3, none⟩ (.int .i64 x)) g f0 f1 f2 x f4 f5 f6 f7 f8 f9 := by
  obtain ⟨A2, c2, hb, hg, hr2⟩ := h
  exact ⟨A2, c2, by simpa using blk_set hb 3 (.int .i64 x), hg, hr2⟩
theorem cellS34_4 {W : World} {g : Nat} {A2 : Option Addr} {c2 : Nat} {f0 : ByteArray} {f1 : Int} {f2 : List Int} {f3 : Int} {f4 : Int} {f5 : Int} {f6 : Bool} {f7 : Bool} {f8 : Int} {f9 : Bool} (h : W.heap[g]? = some (.cells #[.string f0, .int .i64 f1, .slice A2 f2.length c2, .int .i64 f3, .int .i64 f4, .int .i64 f5, .bool f6, .bool f7, .int .i64 f8, .bool f9] 34 (0, 0))) : W.cell? ⟨g, 4, none⟩ = some (.int .i64 f4) := (blk_cell h 4).trans rfl
theorem IsS34.set_4 {w0 W : World} {g : Nat} {f0 : ByteArray} {f1 : Int} {f2 : List Int} {f3 : Int} {f4 : Int} {f5 : Int} {f6 : Bool} {f7 : Bool} {f8 : Int} {f9 : Bool} (h : IsS34 w0 W g f0 f1 f2 f3 f4 f5 f6 f7 f8 f9) (x : Int) : IsS34 w0 (W.setCell ⟨g, 4, none⟩ (.int .i64 x)) g f0 f1 f2 f3 x f5 f6 f7 f8 f9 := by
  obtain ⟨A2, c2, hb, hg, hr2⟩ := h
  exact ⟨A2, c2, by simpa using blk_set hb 4 (.int .i64 x), hg, hr2⟩
theorem cellS34_5 {W : World} {g : Nat} {A2 : Option Addr} {c2 : Nat} {f0 : ByteArray} {f1 : Int} {f2 : List Int} {f3 : Int} {f4 : Int} {f5 : Int} {f6 : Bool} {f7 : Bool} {f8 : Int} {f9 : Bool} (h : W.heap[g]? = some (.cells #[.string f0, .int .i64 f1, .slice A2 f2.length c2, .int .i64 f3, .int .i64 f4, .int .i64 f5, .bool f6, .bool f7, .int .i64 f8, .bool f9] 34 (0, 0))) : W.cell? ⟨g, 5, none⟩ = some (.int .i64 f5) := (blk_cell h 5).trans rfl
theorem IsS34.set_5 {w0 W : World} {g : Nat} {f0 : ByteArray} {f1 : Int} {f2 : List Int} {f3 : Int} {f4 : Int} {f5 : Int} {f6 : Bool} {f7 : Bool} {f8 : Int} {f9 : Bool} (h : IsS34 w0 W g f0 f1 f2 f3 f4 f5 f6 f7 f8 f9) (x : Int) : IsS34 w0 (W.setCell ⟨g, 5, none⟩ (.int .i64 x)) g f0 f1 f2 f3 f4 x f6 f7 f8 f9 := by
  obtain ⟨A2, c2, hb, hg, hr2⟩ := h
  exact ⟨A2, c2, by simpa using blk_set hb 5 (.int .i64 x), hg, hr2⟩
theorem cellS34_6 {W : World} {g : Nat} {A2 : Option Addr} {c2 : Nat} {f0 : ByteArray} {f1 : Int} {f2 : List Int} {f3 : Int} {f4 : Int} {f5 : Int} {f6 : Bool} {f7 : Bool} {f8 : Int} {f9 : Bool} (h : W.heap[g]? = some (.cells #[.string f0, .int .i64 f1, .slice A2 f2.length c2, .int .i64 f3, .int .i64 f4, .int .i64 f5, .bool f6, .bool f7, .int .i64 f8, .bool f9] 34 (0, 0))) : W.cell? ⟨g, 6, none⟩ = some (.bool f6) := (blk_cell h 6).trans rfl
theorem IsS34.set_6 {w0 W : World} {g : Nat} {f0 : ByteArray} {f1 : Int} {f2 : List Int} {f3 : Int} {f4 : Int} {f5 : Int} {f6 : Bool} {f7 : Bool} {f8 : Int} {f9 : Bool} (h : IsS34 w0 W g f0 f1 f2 f3 f4 f5 f6 f7 f8 f9) (x : Bool) : IsS34 w0 (W.setCell ⟨g, 6, none⟩ (.bool x)) g f0 f1 f2 f3 f4 f5 x f7 f8 f9 := by
  obtain ⟨A2, c2, hb, hg, hr2⟩ := h
  exact ⟨A2, c2, by simpa using blk_set hb 6 (.bool x), hg, hr2⟩
theorem cellS34_7 {W : World} {g : Nat} {A2 : Option Addr} {c2 : Nat} {f0 : ByteArray} {f1 : Int} {f2 : List Int} {f3 : Int} {f4 : Int} {f5 : Int} {f6 : Bool} {f7 : Bool} {f8 : Int} {f9 : Bool} (h : W.heap[g]? = some (.cells #[.string f0, .int .i64 f1, .slice A2 f2.length c2, .int .i64 f3, .int .i64 f4, .int .i64 f5, .bool f6, .bool f7, .int .i64 f8, .bool f9] 34 (0, 0))) : W.cell? ⟨g, 7, none⟩ = some (.bool f7) := (blk_cell h 7).trans rfl
theorem IsS34.set_7 {w0 W : World} {g : Nat} {f0 : ByteArray} {f1 : Int} {f2 : List Int} {f3 : Int} {f4 : Int} {f5 : Int} {f6 : Bool} {f7 : Bool} {f8 : Int} {f9 : Bool} (h : IsS34 w0 W g f0 f1 f2 f3 f4 f5 f6 f7 f8 f9) (x : Bool) : IsS34 w0 (W.setCell ⟨g, 7, none⟩ (.bool x)) g f0 f1 f2 f3 f4 f5 f6 x f8 f9 := by
  obtain ⟨A2, c2, hb, hg, hr2⟩ := h
  exact ⟨A2, c2, by simpa using blk_set hb 7 (.bool x), hg, hr2⟩
theorem cellS34_8 {W : World} {g : Nat} {A2 : Option Addr} {c2 : Nat} {f0 : ByteArray} {f1 : Int} {f2 : List Int} {f3 : Int} {f4 : Int} {f5 : Int} {f6 : Bool} {f7 : Bool} {f8 : Int} {f9 : Bool} (h : W.heap[g]? = some (.cells #[.string f0, .int .i64 f1, .slice A2 f2.length c2, .int .i64 f3, .int .i64 f4, .int .i64 f5, .bool f6, .bool f7, .int .i64 f8, .bool f9] 34 (0, 0))) : W.cell? ⟨g, 8, none⟩ = some (.int .i64 f8) := (blk_cell h 8).trans rfl
theorem IsS34.set_8 {w0 W : World} {g : Nat} {f0 : ByteArray} {f1 : Int} {f2 : List Int} {f3 : Int} {f4 : Int} {f5 : Int} {f6 : Bool} {f7 : Bool} {f8 : Int} {f9 : Bool} (h : IsS34 w0 W g f0 f1 f2 f3 f4 f5 f6 f7 f8 f9) (x : Int) : IsS34 w0 (W.setCell ⟨g, 8, none⟩ (.int .i64 x)) g f0 f1 f2 f3 f4 f5 f6 f7 x f9 := by
  obtain ⟨A2, c2, hb, hg, hr2⟩ := h
  exact ⟨A2, c2, by simpa using blk_set hb 8 (.int .i64 x), hg, hr2⟩
theorem cellS34_9 {W : World} {g : Nat} {A2 : Option Addr} {c2 : Nat} {f0 : ByteArray} {f1 : Int} {f2 : List Int} {f3 : Int} {f4 : Int} {f5 : Int} {f6 : Bool} {f7 : Bool} {f8 : Int} {f9 : Bool} (h : W.heap[g]? = some (.cells #[.string f0, .int .i64 f1, .slice A2 f2.length c2, .int .i64 f3, .int .i64 f4, .int .i64 f5, .bool f6, .bool f7, .int .i64 f8, .bool f9] 34 (0, 0))) : W.cell? ⟨g, 9, none⟩ = some (.bool f9) := (blk_cell h 9).trans rfl
theorem IsS34.set_9 {w0 W : World} {g : Nat} {f0 : ByteArray} {f1 : Int} {f2 : List Int} {f3 : Int} {f4 : Int} {f5 : Int} {f6 : Bool} {f7 : Bool} {f8 : Int} {f9 : Bool} (h : IsS34 w0 W g f0 f1 f2 f3 f4 f5 f6 f7 f8 f9) (x : Bool) : IsS34 w0 (W.setCell ⟨g, 9, none⟩ (.bool x)) g f0 f1 f2 f3 f4 f5 f6 f7 f8 x := by
  obtain ⟨A2, c2, hb, hg, hr2⟩ := h
  exact ⟨A2, c2, by simpa using blk_set hb 9 (.bool x), hg, hr2⟩
theorem IsS34.new (w0 W : World) (A2 : Option Addr) (c2 : Nat) (f0 : ByteArray) (f1 : Int) (f2 : List Int) (f3 : Int) (f4 : Int) (f5 : Int) (f6 : Bool) (f7 : Bool) (f8 : Int) (f9 : Bool) (hB : Below w0.heap.size w0 W) (hr2 : Kd.C (Kd.int .i64) w0 A2 f2.length f2) : IsS34 w0 (W.alloc (.cells #[.string f0, .int .i64 f1, .slice A2 f2.length c2, .int .i64 f3, .int .i64 f4, .int .i64 f5, .bool f6, .bool f7, .int .i64 f8, .bool f9] 34)) W.heap.size f0 f1 f2 f3 f4 f5 f6 f7 f8 f9 := ⟨A2, c2, by simpa using heap_alloc_new W _, hB.size, hr2⟩

/-! ### spec_rustReader_stop: function 18 -/
def spec_rustReader_stop.f (s0_0 : ByteArray) (s0_1 : Int) (s0_2 : List Int) (s0_3 : Int) (s0_4 : Int) (s0_5 : Int) (s0_6 : Bool) (s0_7 : Bool) (s0_8 : Int) (s0_9 : Bool) (a1 : Int) : Option (ByteArray × Int × Int × Int × Int × Bool × Bool × Int × Bool) := if s0_4 = 0 then (some (s0_0, s0_1, s0_3, a1, s0_5, s0_6, s0_7, s0_8, s0_9)) else (some (s0_0, s0_1, s0_3, s0_4, s0_5, s0_6, s0_7, s0_8, s0_9))
set_option maxHeartbeats 8000000 in
set_option maxRecDepth 100000 in
theorem spec_rustReader_stop.calls (g : Nat) (s0_0 : ByteArray) (s0_1 : Int) (s0_2 : List Int) (s0_3 : Int) (s0_4 : Int) (s0_5 : Int) (s0_6 : Bool) (s0_7 : Bool) (s0_8 : Int) (s0_9 : Bool) (a1 : Int) (r1 : ByteArray) (r2 : Int) (r3 : Int) (r4 : Int) (r5 : Int) (r6 : Bool) (r7 : Bool) (r8 : Int) (r9 : Bool) (w0 w : World) (hI : IsS34 w0 w g s0_0 s0_1 s0_2 s0_3 s0_4 s0_5 s0_6 s0_7 s0_8 s0_9) (hB : Below w0.heap.size w0 w) (h : spec_rustReader_stop.f s0_0 s0_1 s0_2 s0_3 s0_4 s0_5 s0_6 s0_7 s0_8 s0_9 a1 = some (r1, r2, r3, r4, r5, r6, r7, r8, r9)) :
    Calls Tryd.prog 18 #[.pointer (some ⟨g, 0, none⟩), .int .i64 a1] w fun e w' => e = .returned (.tuple #[]) ∧ IsS34 w0 w' g r1 r2 s0_2 r3 r4 r5 r6 r7 r8 r9 ∧ Below w0.heap.size w0 w' ∧ KeepBut w w' g none := by
  have HI0 := Aside0.mk hI
  have HK := Aside0.mk (KeepBut.refl w g none)
  have HL := Aside0.mk hB.size
  clear hI
  have HW0 := Aside0.mk hB.size
  have HB := Aside0.mk hB
  clear hB
  have H : (if s0_4 = 0 then (some (s0_0, s0_1, s0_3, a1, s0_5, s0_6, s0_7, s0_8, s0_9)) else (some (s0_0, s0_1, s0_3, s0_4, s0_5, s0_6, s0_7, s0_8, s0_9))) = some (r1, r2, r3, r4, r5, r6, r7, r8, r9) := h
  clear h
  by_cases c3 : s0_4 = 0
  · rw [if_pos c3] at H
    have c3b0 : (s0_4 == 0) = true := beq_iff_eq.mpr c3
    have c3b1 : (s0_4 != 0) = false := bne_eq_false_iff_eq.mpr c3
    clear c3
    simp only [Option.some.injEq, Prod.mk.injEq] at H
    obtain ⟨rfl, rfl, rfl, rfl, rfl, rfl, rfl, rfl, rfl⟩ := H
    obtain ⟨ASz4_2, cSz4_2, HGz4, hgz4, HSz4_2⟩ := HI0.out
    have hcz4_0 := cellS34_0 HGz4
    have hcz4_1 := cellS34_1 HGz4
    have hcz4_2 := cellS34_2 HGz4
    have hcz4_3 := cellS34_3 HGz4
    have hcz4_4 := cellS34_4 HGz4
    have hcz4_5 := cellS34_5 HGz4
    have hcz4_6 := cellS34_6 HGz4
    have hcz4_7 := cellS34_7 HGz4
    have hcz4_8 := cellS34_8 HGz4
    have hcz4_9 := cellS34_9 HGz4
    have hfz4_0 := blk_frozen HGz4 0
    have hfz4_1 := blk_frozen HGz4 1
    have hfz4_3 := blk_frozen HGz4 3
    have hfz4_4 := blk_frozen HGz4 4
    have hfz4_5 := blk_frozen HGz4 5
    have hfz4_6 := blk_frozen HGz4 6
    have hfz4_7 := blk_frozen HGz4 7
    have hfz4_8 := blk_frozen HGz4 8
    have hfz4_9 := blk_frozen HGz4 9
    clear HGz4 hgz4
    go_enter Tryd.func18, Tryd.ntmps18
    go_wp2
    first | go_end0 | ((try simp only [Exit.inBlock, Exit.then]); refine bodyPost_ret (results_none rfl _ _ _) rfl ?_)
    exact ⟨by first | rfl | (simp [errW_none, errW_some] <;> rfl) | (simp [*, errW_none, errW_some] <;> rfl), by repeat (first | (with_reducible first | exact HI0.out | apply IsS34.alloc | apply IsS34.drewN | apply IsS34.drew | apply IsS34.set_0 | apply IsS34.set_1 | apply IsS34.set_3 | apply IsS34.set_4 | apply IsS34.set_5 | apply IsS34.set_6 | apply IsS34.set_7 | apply IsS34.set_8 | apply IsS34.set_9) | exact HI0.out), by repeat (first | (with_reducible first | exact HB.out | apply below_alloc | apply pw_below_drewN | apply below_drew1 | refine below_set ?_ (IsS34.ge HI0.out)) | exact HB.out), by repeat (first | (with_reducible first | exact HK.out | apply KeepBut.set_ | apply keep_drewN | apply keep_drew | apply keep_alloc) | exact HK.out)⟩
  · rw [if_neg c3] at H
    have c3b0 : (s0_4 == 0) = false := beq_eq_false_iff_ne.mpr c3
    have c3b1 : (s0_4 != 0) = true := bne_iff_ne.mpr c3
    simp only [Option.some.injEq, Prod.mk.injEq] at H
    obtain ⟨rfl, rfl, rfl, rfl, rfl, rfl, rfl, rfl, rfl⟩ := H
    obtain ⟨ASz5_2, cSz5_2, HGz5, hgz5, HSz5_2⟩ := HI0.out
    have hcz5_0 := cellS34_0 HGz5
    have hcz5_1 := cellS34_1 HGz5
    have hcz5_2 := cellS34_2 HGz5
    have hcz5_3 := cellS34_3 HGz5
    have hcz5_4 := cellS34_4 HGz5
    have hcz5_5 := cellS34_5 HGz5
    have hcz5_6 := cellS34_6 HGz5
    have hcz5_7 := cellS34_7 HGz5
    have hcz5_8 := cellS34_8 HGz5
    have hcz5_9 := cellS34_9 HGz5
    have hfz5_0 := blk_frozen HGz5 0
    have hfz5_1 := blk_frozen HGz5 1
    have hfz5_3 := blk_frozen HGz5 3
    have hfz5_4 := blk_frozen HGz5 4
    have hfz5_5 := blk_frozen HGz5 5
    have hfz5_6 := blk_frozen HGz5 6
    have hfz5_7 := blk_frozen HGz5 7
    have hfz5_8 := blk_frozen HGz5 8
    have hfz5_9 := blk_frozen HGz5 9
    clear HGz5 hgz5
    go_enter Tryd.func18, Tryd.ntmps18
    go_wp2
    first | go_end0 | ((try simp only [Exit.inBlock, Exit.then]); refine bodyPost_ret (results_none rfl _ _ _) rfl ?_)
    exact ⟨by first | rfl | (simp [errW_none, errW_some] <;> rfl) | (simp [*, errW_none, errW_some] <;> rfl), by repeat (first | (with_reducible first | exact HI0.out | apply IsS34.alloc | apply IsS34.drewN | apply IsS34.drew | apply IsS34.set_0 | apply IsS34.set_1 | apply IsS34.set_3 | apply IsS34.set_4 | apply IsS34.set_5 | apply IsS34.set_6 | apply IsS34.set_7 | apply IsS34.set_8 | apply IsS34.set_9) | exact HI0.out), by repeat (first | (with_reducible first | exact HB.out | apply below_alloc | apply pw_below_drewN | apply below_drew1 | refine below_set ?_ (IsS34.ge HI0.out)) | exact HB.out), by repeat (first | (with_reducible first | exact HK.out | apply KeepBut.set_ | apply keep_drewN | apply keep_drew | apply keep_alloc) | exact HK.out)⟩

/-! ### spec_rustReader_take: function 19 -/
def spec_rustReader_take.f (s0_0 : ByteArray) (s0_1 : Int) (s0_2 : List Int) (s0_3 : Int) (s0_4 : Int) (s0_5 : Int) (s0_6 : Bool) (s0_7 : Bool) (s0_8 : Int) (s0_9 : Bool) (a1 : Int) : Option (Bool × ByteArray × Int × Int × Int × Int × Bool × Bool × Int × Bool) := if s0_4 = 0 then (if s0_1 < (s0_0.size : Int) then (if 0 ≤ s0_1 then (if (bt s0_0 s0_1) = a1 then (some (true, s0_0, wrap64 (s0_1 + 1), s0_3, s0_4, s0_5, s0_6, s0_7, s0_8, s0_9)) else (some (false, s0_0, s0_1, s0_3, s0_4, s0_5, s0_6, s0_7, s0_8, s0_9))) else (none)) else (some (false, s0_0, s0_1, s0_3, s0_4, s0_5, s0_6, s0_7, s0_8, s0_9))) else (some (false, s0_0, s0_1, s0_3, s0_4, s0_5, s0_6, s0_7, s0_8, s0_9))
set_option maxHeartbeats 8000000 in
set_option maxRecDepth 100000 in
theorem spec_rustReader_take.calls (g : Nat) (s0_0 : ByteArray) (s0_1 : Int) (s0_2 : List Int) (s0_3 : Int) (s0_4 : Int) (s0_5 : Int) (s0_6 : Bool) (s0_7 : Bool) (s0_8 : Int) (s0_9 : Bool) (a1 : Int) (r1 : Bool) (r2 : ByteArray) (r3 : Int) (r4 : Int) (r5 : Int) (r6 : Int) (r7 : Bool) (r8 : Bool) (r9 : Int) (r10 : Bool) (w0 w : World) (hI : IsS34 w0 w g s0_0 s0_1 s0_2 s0_3 s0_4 s0_5 s0_6 s0_7 s0_8 s0_9) (hB : Below w0.heap.size w0 w) (h : spec_rustReader_take.f s0_0 s0_1 s0_2 s0_3 s0_4 s0_5 s0_6 s0_7 s0_8 s0_9 a1 = some (r1, r2, r3, r4, r5, r6, r7, r8, r9, r10)) :
    Calls Tryd.prog 19 #[.pointer (some ⟨g, 0, none⟩), .int .u8 a1] w fun e w' => e = .returned (.bool r1) ∧ IsS34 w0 w' g r2 r3 s0_2 r4 r5 r6 r7 r8 r9 r10 ∧ Below w0.heap.size w0 w' ∧ KeepBut w w' g none := by
  have HI0 := Aside0.mk hI
  have HK := Aside0.mk (KeepBut.refl w g none)
  have HL := Aside0.mk hB.size
  clear hI
  have HW0 := Aside0.mk hB.size
  have HB := Aside0.mk hB
  clear hB
  have H : (if s0_4 = 0 then (if s0_1 < (s0_0.size : Int) then (if 0 ≤ s0_1 then (if (bt s0_0 s0_1) = a1 then (some (true, s0_0, wrap64 (s0_1 + 1), s0_3, s0_4, s0_5, s0_6, s0_7, s0_8, s0_9)) else (some (false, s0_0, s0_1, s0_3, s0_4, s0_5, s0_6, s0_7, s0_8, s0_9))) else (none)) else (some (false, s0_0, s0_1, s0_3, s0_4, s0_5, s0_6, s0_7, s0_8, s0_9))) else (some (false, s0_0, s0_1, s0_3, s0_4, s0_5, s0_6, s0_7, s0_8, s0_9))) = some (r1, r2, r3, r4, r5, r6, r7, r8, r9, r10) := h
  clear h
  by_cases c3 : s0_4 = 0
  · rw [if_pos c3] at H
    have c3b0 : (s0_4 == 0) = true := beq_iff_eq.mpr c3
    have c3b1 : (s0_4 != 0) = false := bne_eq_false_iff_eq.mpr c3
    clear c3
    by_cases c4 : s0_1 < (s0_0.size : Int)
    · rw [if_pos c4] at H
      have c4b0 : decide (s0_1 < (s0_0.size : Int)) = true := decide_eq_true c4
      clear c4
      by_cases c5 : 0 ≤ s0_1
      · rw [if_pos c5] at H
        have c5b0 : decide (0 ≤ s0_1) = true := decide_eq_true c5
        clear c5
        by_cases c7 : (bt s0_0 s0_1) = a1
        · rw [if_pos c7] at H
          have c7b0 : ((bt s0_0 s0_1) == a1) = true := beq_iff_eq.mpr c7
          have c7b1 : ((bt s0_0 s0_1) != a1) = false := bne_eq_false_iff_eq.mpr c7
          clear c7
          simp only [Option.some.injEq, Prod.mk.injEq] at H
          obtain ⟨rfl, rfl, rfl, rfl, rfl, rfl, rfl, rfl, rfl, rfl⟩ := H
          obtain ⟨ASz8_2, cSz8_2, HGz8, hgz8, HSz8_2⟩ := HI0.out
          have hcz8_0 := cellS34_0 HGz8
          have hcz8_1 := cellS34_1 HGz8
          have hcz8_2 := cellS34_2 HGz8
          have hcz8_3 := cellS34_3 HGz8
          have hcz8_4 := cellS34_4 HGz8
          have hcz8_5 := cellS34_5 HGz8
          have hcz8_6 := cellS34_6 HGz8
          have hcz8_7 := cellS34_7 HGz8
          have hcz8_8 := cellS34_8 HGz8
          have hcz8_9 := cellS34_9 HGz8
          have hfz8_0 := blk_frozen HGz8 0
          have hfz8_1 := blk_frozen HGz8 1
          have hfz8_3 := blk_frozen HGz8 3
          have hfz8_4 := blk_frozen HGz8 4
          have hfz8_5 := blk_frozen HGz8 5
          have hfz8_6 := blk_frozen HGz8 6
          have hfz8_7 := blk_frozen HGz8 7
          have hfz8_8 := blk_frozen HGz8 8
          have hfz8_9 := blk_frozen HGz8 9
          clear HGz8 hgz8
          have p6 : 0 ≤ (s0_1 : Int) := of_decide_eq_true (by first | (with_reducible assumption) | assumption)
          have q6 : s0_1 < (s0_0.size : Int) := of_decide_eq_true (by first | (with_reducible assumption) | assumption)
          have hx6 := bt_at s0_0 s0_1
          replace p6 := eq_true p6
          replace q6 := eq_true q6
          go_enter Tryd.func19, Tryd.ntmps19
          go_wp2
          repeat (go_quiet (fail); try go_wp2)
          go_ret
          exact ⟨by first | rfl | (simp [errW_none, errW_some] <;> rfl) | (simp [*, errW_none, errW_some] <;> rfl), by repeat (first | (with_reducible first | exact HI0.out | apply IsS34.alloc | apply IsS34.drewN | apply IsS34.drew | apply IsS34.set_0 | apply IsS34.set_1 | apply IsS34.set_3 | apply IsS34.set_4 | apply IsS34.set_5 | apply IsS34.set_6 | apply IsS34.set_7 | apply IsS34.set_8 | apply IsS34.set_9) | exact HI0.out), by repeat (first | (with_reducible first | exact HB.out | apply below_alloc | apply pw_below_drewN | apply below_drew1 | refine below_set ?_ (IsS34.ge HI0.out)) | exact HB.out), by repeat (first | (with_reducible first | exact HK.out | apply KeepBut.set_ | apply keep_drewN | apply keep_drew | apply keep_alloc) | exact HK.out)⟩
        · rw [if_neg c7] at H
          have c7b0 : ((bt s0_0 s0_1) == a1) = false := beq_eq_false_iff_ne.mpr c7
          have c7b1 : ((bt s0_0 s0_1) != a1) = true := bne_iff_ne.mpr c7
          simp only [Option.some.injEq, Prod.mk.injEq] at H
          obtain ⟨rfl, rfl, rfl, rfl, rfl, rfl, rfl, rfl, rfl, rfl⟩ := H
          obtain ⟨ASz9_2, cSz9_2, HGz9, hgz9, HSz9_2⟩ := HI0.out
          have hcz9_0 := cellS34_0 HGz9
          have hcz9_1 := cellS34_1 HGz9
          have hcz9_2 := cellS34_2 HGz9
          have hcz9_3 := cellS34_3 HGz9
          have hcz9_4 := cellS34_4 HGz9
          have hcz9_5 := cellS34_5 HGz9
          have hcz9_6 := cellS34_6 HGz9
          have hcz9_7 := cellS34_7 HGz9
          have hcz9_8 := cellS34_8 HGz9
          have hcz9_9 := cellS34_9 HGz9
          have hfz9_0 := blk_frozen HGz9 0
          have hfz9_1 := blk_frozen HGz9 1
          have hfz9_3 := blk_frozen HGz9 3
          have hfz9_4 := blk_frozen HGz9 4
          have hfz9_5 := blk_frozen HGz9 5
          have hfz9_6 := blk_frozen HGz9 6
          have hfz9_7 := blk_frozen HGz9 7
          have hfz9_8 := blk_frozen HGz9 8
          have hfz9_9 := blk_frozen HGz9 9
          clear HGz9 hgz9
          have p6 : 0 ≤ (s0_1 : Int) := of_decide_eq_true (by first | (with_reducible assumption) | assumption)
          have q6 : s0_1 < (s0_0.size : Int) := of_decide_eq_true (by first | (with_reducible assumption) | assumption)
          have hx6 := bt_at s0_0 s0_1
          replace p6 := eq_true p6
          replace q6 := eq_true q6
          go_enter Tryd.func19, Tryd.ntmps19
          go_wp2
          repeat (go_quiet (fail); try go_wp2)
          go_ret
          exact ⟨by first | rfl | (simp [errW_none, errW_some] <;> rfl) | (simp [*, errW_none, errW_some] <;> rfl), by repeat (first | (with_reducible first | exact HI0.out | apply IsS34.alloc | apply IsS34.drewN | apply IsS34.drew | apply IsS34.set_0 | apply IsS34.set_1 | apply IsS34.set_3 | apply IsS34.set_4 | apply IsS34.set_5 | apply IsS34.set_6 | apply IsS34.set_7 | apply IsS34.set_8 | apply IsS34.set_9) | exact HI0.out), by repeat (first | (with_reducible first | exact HB.out | apply below_alloc | apply pw_below_drewN | apply below_drew1 | refine below_set ?_ (IsS34.ge HI0.out)) | exact HB.out), by repeat (first | (with_reducible first | exact HK.out | apply KeepBut.set_ | apply keep_drewN | apply keep_drew | apply keep_alloc) | exact HK.out)⟩
      · rw [if_neg c5] at H
        exact absurd H (by simp)
    · rw [if_neg c4] at H
      have c4b0 : decide (s0_1 < (s0_0.size : Int)) = false := decide_eq_false c4
      clear c4
      simp only [Option.some.injEq, Prod.mk.injEq] at H
      obtain ⟨rfl, rfl, rfl, rfl, rfl, rfl, rfl, rfl, rfl, rfl⟩ := H
      obtain ⟨ASz10_2, cSz10_2, HGz10, hgz10, HSz10_2⟩ := HI0.out
      have hcz10_0 := cellS34_0 HGz10
      have hcz10_1 := cellS34_1 HGz10
      have hcz10_2 := cellS34_2 HGz10
      have hcz10_3 := cellS34_3 HGz10
      have hcz10_4 := cellS34_4 HGz10
      have hcz10_5 := cellS34_5 HGz10
      have hcz10_6 := cellS34_6 HGz10
      have hcz10_7 := cellS34_7 HGz10
      have hcz10_8 := cellS34_8 HGz10
      have hcz10_9 := cellS34_9 HGz10
      have hfz10_0 := blk_frozen HGz10 0
      have hfz10_1 := blk_frozen HGz10 1
      have hfz10_3 := blk_frozen HGz10 3
      have hfz10_4 := blk_frozen HGz10 4
      have hfz10_5 := blk_frozen HGz10 5
      have hfz10_6 := blk_frozen HGz10 6
      have hfz10_7 := blk_frozen HGz10 7
      have hfz10_8 := blk_frozen HGz10 8
      have hfz10_9 := blk_frozen HGz10 9
      clear HGz10 hgz10
      go_enter Tryd.func19, Tryd.ntmps19
      go_wp2
      repeat (go_quiet (fail); try go_wp2)
      go_ret
      exact ⟨by first | rfl | (simp [errW_none, errW_some] <;> rfl) | (simp [*, errW_none, errW_some] <;> rfl), by repeat (first | (with_reducible first | exact HI0.out | apply IsS34.alloc | apply IsS34.drewN | apply IsS34.drew | apply IsS34.set_0 | apply IsS34.set_1 | apply IsS34.set_3 | apply IsS34.set_4 | apply IsS34.set_5 | apply IsS34.set_6 | apply IsS34.set_7 | apply IsS34.set_8 | apply IsS34.set_9) | exact HI0.out), by repeat (first | (with_reducible first | exact HB.out | apply below_alloc | apply pw_below_drewN | apply below_drew1 | refine below_set ?_ (IsS34.ge HI0.out)) | exact HB.out), by repeat (first | (with_reducible first | exact HK.out | apply KeepBut.set_ | apply keep_drewN | apply keep_drew | apply keep_alloc) | exact HK.out)⟩
  · rw [if_neg c3] at H
    have c3b0 : (s0_4 == 0) = false := beq_eq_false_iff_ne.mpr c3
    have c3b1 : (s0_4 != 0) = true := bne_iff_ne.mpr c3
    simp only [Option.some.injEq, Prod.mk.injEq] at H
    obtain ⟨rfl, rfl, rfl, rfl, rfl, rfl, rfl, rfl, rfl, rfl⟩ := H
    obtain ⟨ASz11_2, cSz11_2, HGz11, hgz11, HSz11_2⟩ := HI0.out
    have hcz11_0 := cellS34_0 HGz11
    have hcz11_1 := cellS34_1 HGz11
    have hcz11_2 := cellS34_2 HGz11
    have hcz11_3 := cellS34_3 HGz11
    have hcz11_4 := cellS34_4 HGz11
    have hcz11_5 := cellS34_5 HGz11
    have hcz11_6 := cellS34_6 HGz11
    have hcz11_7 := cellS34_7 HGz11
    have hcz11_8 := cellS34_8 HGz11
    have hcz11_9 := cellS34_9 HGz11
    have hfz11_0 := blk_frozen HGz11 0
    have hfz11_1 := blk_frozen HGz11 1
    have hfz11_3 := blk_frozen HGz11 3
    have hfz11_4 := blk_frozen HGz11 4
    have hfz11_5 := blk_frozen HGz11 5
    have hfz11_6 := blk_frozen HGz11 6
    have hfz11_7 := blk_frozen HGz11 7
    have hfz11_8 := blk_frozen HGz11 8
    have hfz11_9 := blk_frozen HGz11 9
    clear HGz11 hgz11
    go_enter Tryd.func19, Tryd.ntmps19
    go_wp2
    repeat (go_quiet (fail); try go_wp2)
    go_ret
    exact ⟨by first | rfl | (simp [errW_none, errW_some] <;> rfl) | (simp [*, errW_none, errW_some] <;> rfl), by repeat (first | (with_reducible first | exact HI0.out | apply IsS34.alloc | apply IsS34.drewN | apply IsS34.drew | apply IsS34.set_0 | apply IsS34.set_1 | apply IsS34.set_3 | apply IsS34.set_4 | apply IsS34.set_5 | apply IsS34.set_6 | apply IsS34.set_7 | apply IsS34.set_8 | apply IsS34.set_9) | exact HI0.out), by repeat (first | (with_reducible first | exact HB.out | apply below_alloc | apply pw_below_drewN | apply below_drew1 | refine below_set ?_ (IsS34.ge HI0.out)) | exact HB.out), by repeat (first | (with_reducible first | exact HK.out | apply KeepBut.set_ | apply keep_drewN | apply keep_drew | apply keep_alloc) | exact HK.out)⟩

/-! ### spec_rustReader_next: function 21 -/
def spec_rustReader_next.f (s0_0 : ByteArray) (s0_1 : Int) (s0_2 : List Int) (s0_3 : Int) (s0_4 : Int) (s0_5 : Int) (s0_6 : Bool) (s0_7 : Bool) (s0_8 : Int) (s0_9 : Bool) : Option (Int × ByteArray × Int × Int × Int × Int × Bool × Bool × Int × Bool) := if s0_1 < (s0_0.size : Int) then (if 0 ≤ s0_1 then (some (bt s0_0 s0_1, s0_0, s0_1, s0_3, s0_4, s0_5, s0_6, s0_7, s0_8, s0_9)) else (none)) else (some (0, s0_0, s0_1, s0_3, s0_4, s0_5, s0_6, s0_7, s0_8, s0_9))
set_option maxHeartbeats 8000000 in
set_option maxRecDepth 100000 in
theorem spec_rustReader_next.calls (g : Nat) (s0_0 : ByteArray) (s0_1 : Int) (s0_2 : List Int) (s0_3 : Int) (s0_4 : Int) (s0_5 : Int) (s0_6 : Bool) (s0_7 : Bool) (s0_8 : Int) (s0_9 : Bool) (r1 : Int) (r2 : ByteArray) (r3 : Int) (r4 : Int) (r5 : Int) (r6 : Int) (r7 : Bool) (r8 : Bool) (r9 : Int) (r10 : Bool) (w0 w : World) (hI : IsS34 w0 w g s0_0 s0_1 s0_2 s0_3 s0_4 s0_5 s0_6 s0_7 s0_8 s0_9) (hB : Below w0.heap.size w0 w) (h : spec_rustReader_next.f s0_0 s0_1 s0_2 s0_3 s0_4 s0_5 s0_6 s0_7 s0_8 s0_9 = some (r1, r2, r3, r4, r5, r6, r7, r8, r9, r10)) :
    Calls Tryd.prog 21 #[.pointer (some ⟨g, 0, none⟩)] w fun e w' => e = .returned (.int .u8 r1) ∧ IsS34 w0 w' g r2 r3 s0_2 r4 r5 r6 r7 r8 r9 r10 ∧ Below w0.heap.size w0 w' ∧ KeepBut w w' g none := by
  have HI0 := Aside0.mk hI
  have HK := Aside0.mk (KeepBut.refl w g none)
  have HL := Aside0.mk hB.size
  clear hI
  have HW0 := Aside0.mk hB.size
  have HB := Aside0.mk hB
  clear hB
  have H : (if s0_1 < (s0_0.size : Int) then (if 0 ≤ s0_1 then (some (bt s0_0 s0_1, s0_0, s0_1, s0_3, s0_4, s0_5, s0_6, s0_7, s0_8, s0_9)) else (none)) else (some (0, s0_0, s0_1, s0_3, s0_4, s0_5, s0_6, s0_7, s0_8, s0_9))) = some (r1, r2, r3, r4, r5, r6, r7, r8, r9, r10) := h
  clear h
  by_cases c2 : s0_1 < (s0_0.size : Int)
  · rw [if_pos c2] at H
    have c2b0 : decide (s0_1 < (s0_0.size : Int)) = true := decide_eq_true c2
    clear c2
    by_cases c3 : 0 ≤ s0_1
    · rw [if_pos c3] at H
      have c3b0 : decide (0 ≤ s0_1) = true := decide_eq_true c3
      clear c3
      simp only [Option.some.injEq, Prod.mk.injEq] at H
      obtain ⟨rfl, rfl, rfl, rfl, rfl, rfl, rfl, rfl, rfl, rfl⟩ := H
      obtain ⟨ASz5_2, cSz5_2, HGz5, hgz5, HSz5_2⟩ := HI0.out
      have hcz5_0 := cellS34_0 HGz5
      have hcz5_1 := cellS34_1 HGz5
      have hcz5_2 := cellS34_2 HGz5
      have hcz5_3 := cellS34_3 HGz5
      have hcz5_4 := cellS34_4 HGz5
      have hcz5_5 := cellS34_5 HGz5
      have hcz5_6 := cellS34_6 HGz5
      have hcz5_7 := cellS34_7 HGz5
      have hcz5_8 := cellS34_8 HGz5
      have hcz5_9 := cellS34_9 HGz5
      have hfz5_0 := blk_frozen HGz5 0
      have hfz5_1 := blk_frozen HGz5 1
      have hfz5_3 := blk_frozen HGz5 3
      have hfz5_4 := blk_frozen HGz5 4
      have hfz5_5 := blk_frozen HGz5 5
      have hfz5_6 := blk_frozen HGz5 6
      have hfz5_7 := blk_frozen HGz5 7
      have hfz5_8 := blk_frozen HGz5 8
      have hfz5_9 := blk_frozen HGz5 9
      clear HGz5 hgz5
      have p4 : 0 ≤ (s0_1 : Int) := of_decide_eq_true (by first | (with_reducible assumption) | assumption)
      have q4 : s0_1 < (s0_0.size : Int) := of_decide_eq_true (by first | (with_reducible assumption) | assumption)
      have hx4 := bt_at s0_0 s0_1
      replace p4 := eq_true p4
      replace q4 := eq_true q4
      go_enter Tryd.func21, Tryd.ntmps21
      go_wp2
      repeat (go_quiet (fail); try go_wp2)
      go_ret
      exact ⟨by first | rfl | (simp [errW_none, errW_some] <;> rfl) | (simp [*, errW_none, errW_some] <;> rfl), by repeat (first | (with_reducible first | exact HI0.out | apply IsS34.alloc | apply IsS34.drewN | apply IsS34.drew | apply IsS34.set_0 | apply IsS34.set_1 | apply IsS34.set_3 | apply IsS34.set_4 | apply IsS34.set_5 | apply IsS34.set_6 | apply IsS34.set_7 | apply IsS34.set_8 | apply IsS34.set_9) | exact HI0.out), by repeat (first | (with_reducible first | exact HB.out | apply below_alloc | apply pw_below_drewN | apply below_drew1 | refine below_set ?_ (IsS34.ge HI0.out)) | exact HB.out), by repeat (first | (with_reducible first | exact HK.out | apply KeepBut.set_ | apply keep_drewN | apply keep_drew | apply keep_alloc) | exact HK.out)⟩
    · rw [if_neg c3] at H
      exact absurd H (by simp)
  · rw [if_neg c2] at H
    have c2b0 : decide (s0_1 < (s0_0.size : Int)) = false := decide_eq_false c2
    clear c2
    simp only [Option.some.injEq, Prod.mk.injEq] at H
    obtain ⟨rfl, rfl, rfl, rfl, rfl, rfl, rfl, rfl, rfl, rfl⟩ := H
    obtain ⟨ASz6_2, cSz6_2, HGz6, hgz6, HSz6_2⟩ := HI0.out
    have hcz6_0 := cellS34_0 HGz6
    have hcz6_1 := cellS34_1 HGz6
    have hcz6_2 := cellS34_2 HGz6
    have hcz6_3 := cellS34_3 HGz6
    have hcz6_4 := cellS34_4 HGz6
    have hcz6_5 := cellS34_5 HGz6
    have hcz6_6 := cellS34_6 HGz6
    have hcz6_7 := cellS34_7 HGz6
    have hcz6_8 := cellS34_8 HGz6
    have hcz6_9 := cellS34_9 HGz6
    have hfz6_0 := blk_frozen HGz6 0
    have hfz6_1 := blk_frozen HGz6 1
    have hfz6_3 := blk_frozen HGz6 3
    have hfz6_4 := blk_frozen HGz6 4
    have hfz6_5 := blk_frozen HGz6 5
    have hfz6_6 := blk_frozen HGz6 6
    have hfz6_7 := blk_frozen HGz6 7
    have hfz6_8 := blk_frozen HGz6 8
    have hfz6_9 := blk_frozen HGz6 9
    clear HGz6 hgz6
    go_enter Tryd.func21, Tryd.ntmps21
    go_wp2
    repeat (go_quiet (fail); try go_wp2)
    go_ret
    exact ⟨by first | rfl | (simp [errW_none, errW_some] <;> rfl) | (simp [*, errW_none, errW_some] <;> rfl), by repeat (first | (with_reducible first | exact HI0.out | apply IsS34.alloc | apply IsS34.drewN | apply IsS34.drew | apply IsS34.set_0 | apply IsS34.set_1 | apply IsS34.set_3 | apply IsS34.set_4 | apply IsS34.set_5 | apply IsS34.set_6 | apply IsS34.set_7 | apply IsS34.set_8 | apply IsS34.set_9) | exact HI0.out), by repeat (first | (with_reducible first | exact HB.out | apply below_alloc | apply pw_below_drewN | apply below_drew1 | refine below_set ?_ (IsS34.ge HI0.out)) | exact HB.out), by repeat (first | (with_reducible first | exact HK.out | apply KeepBut.set_ | apply keep_drewN | apply keep_drew | apply keep_alloc) | exact HK.out)⟩

/-! ### spec_rustBits: function 22 -/
def spec_rustBits.j0 : Nat → Int → Bool → Option (Int × Bool)
  | 0, _, _ => none
  | k + 1, x4, x11 => if x11 = true then (some (64, true)) else (if x4 = 104 then (some (8, false)) else (if x4 = 116 then (some (16, false)) else (if x4 = 109 then (some (32, false)) else (if x4 = 121 then (some (64, false)) else (if x4 = 111 then (some (64, false)) else (if x4 = 106 then (some (64, false)) else (some (0, false))))))))
def spec_rustBits.f (k : Nat) (a0 : Int) : Option (Int × Bool) := if a0 = 97 then (some (8, true)) else (if a0 = 115 then (some (16, true)) else (if a0 = 108 then (some (32, true)) else (if a0 = 120 then (spec_rustBits.j0 k a0 (a0 == 120)) else (if a0 = 110 then (spec_rustBits.j0 k a0 (a0 == 110)) else (spec_rustBits.j0 k a0 (a0 == 105))))))
theorem spec_rustBits.mono_l : ∀ k, (∀ y0 y1, LeO (spec_rustBits.j0 k y0 y1) (spec_rustBits.j0 (k + 1) y0 y1))
  | 0 => fun _ _ r h => by simp [spec_rustBits.j0] at h
  | k + 1 => by
    have ih0 := spec_rustBits.mono_l k
    · intro y0 y1
      unfold spec_rustBits.j0
      repeat' first
      | (with_reducible exact ih0 _ _)
      | (with_reducible exact LeO.refl _)
      | (with_reducible exact LeO.none _)
      | (with_reducible refine LeO.ite ?_ ?_)
      | (with_reducible refine LeO.bind ?_ (fun _ => ?_))
      | exact ih0 _ _
      | exact LeO.none _
      | refine LeO.ite ?_ ?_
      | refine LeO.bind ?_ (fun _ => ?_)
theorem spec_rustBits.mono : ∀ a0 k, LeO (spec_rustBits.f k a0) (spec_rustBits.f (k + 1) a0) := by
  intro a0 k
  have ih0 := spec_rustBits.mono_l k
  unfold spec_rustBits.f
  repeat' first
      | (with_reducible exact ih0 _ _)
      | (with_reducible exact LeO.refl _)
      | (with_reducible exact LeO.none _)
      | (with_reducible refine LeO.ite ?_ ?_)
      | (with_reducible refine LeO.bind ?_ (fun _ => ?_))
      | exact ih0 _ _
      | exact LeO.none _
      | refine LeO.ite ?_ ?_
      | refine LeO.bind ?_ (fun _ => ?_)
set_option maxHeartbeats 8000000 in
set_option maxRecDepth 100000 in
theorem spec_rustBits.calls (k : Nat) (a0 : Int) (r1 : Int) (r2 : Bool) (w : World) (h : spec_rustBits.f k a0 = some (r1, r2)) :
    Calls Tryd.prog 22 #[.int .u8 a0] w fun e w' => e = .returned (.tuple #[.int .u64 r1, .bool r2]) ∧ Drawn0 w w' := by
  have H : (if a0 = 97 then (some (8, true)) else (if a0 = 115 then (some (16, true)) else (if a0 = 108 then (some (32, true)) else (if a0 = 120 then (spec_rustBits.j0 k a0 (a0 == 120)) else (if a0 = 110 then (spec_rustBits.j0 k a0 (a0 == 110)) else (spec_rustBits.j0 k a0 (a0 == 105))))))) = some (r1, r2) := h
  clear h
  by_cases c2 : a0 = 97
  · rw [if_pos c2] at H
    have c2b0 : (a0 == 97) = true := beq_iff_eq.mpr c2
    have c2b1 : (a0 != 97) = false := bne_eq_false_iff_eq.mpr c2
    clear c2
    simp only [Option.some.injEq, Prod.mk.injEq] at H
    obtain ⟨rfl, rfl⟩ := H
    go_enter Tryd.func22, Tryd.ntmps22
    go_wp2
    go_ret2
    exact ⟨by first | rfl | (simp; done) | (simp [*]; done), by repeat (first | exact Drawn0.refl _ | apply Drawn0.step)⟩
  · rw [if_neg c2] at H
    have c2b0 : (a0 == 97) = false := beq_eq_false_iff_ne.mpr c2
    have c2b1 : (a0 != 97) = true := bne_iff_ne.mpr c2
    by_cases c3 : a0 = 115
    · rw [if_pos c3] at H
      have c3b0 : (a0 == 115) = true := beq_iff_eq.mpr c3
      have c3b1 : (a0 != 115) = false := bne_eq_false_iff_eq.mpr c3
      clear c3
      simp only [Option.some.injEq, Prod.mk.injEq] at H
      obtain ⟨rfl, rfl⟩ := H
      go_enter Tryd.func22, Tryd.ntmps22
      go_wp2
      go_ret2
      exact ⟨by first | rfl | (simp; done) | (simp [*]; done), by repeat (first | exact Drawn0.refl _ | apply Drawn0.step)⟩
    · rw [if_neg c3] at H
      have c3b0 : (a0 == 115) = false := beq_eq_false_iff_ne.mpr c3
      have c3b1 : (a0 != 115) = true := bne_iff_ne.mpr c3
      by_cases c4 : a0 = 108
      · rw [if_pos c4] at H
        have c4b0 : (a0 == 108) = true := beq_iff_eq.mpr c4
        have c4b1 : (a0 != 108) = false := bne_eq_false_iff_eq.mpr c4
        clear c4
        simp only [Option.some.injEq, Prod.mk.injEq] at H
        obtain ⟨rfl, rfl⟩ := H
        go_enter Tryd.func22, Tryd.ntmps22
        go_wp2
        go_ret2
        exact ⟨by first | rfl | (simp; done) | (simp [*]; done), by repeat (first | exact Drawn0.refl _ | apply Drawn0.step)⟩
      · rw [if_neg c4] at H
        have c4b0 : (a0 == 108) = false := beq_eq_false_iff_ne.mpr c4
        have c4b1 : (a0 != 108) = true := bne_iff_ne.mpr c4
        have HC5 := Aside0.mk H
        clear H
        go_enter Tryd.func22, Tryd.ntmps22
        go_upto_if 11 with (fail)
        go_cut [11] (fun v11 wc => ∃ (kq : Nat) (x11_4 : Bool), v11 = .bool x11_4 ∧ Aside0 (spec_rustBits.j0 kq a0 x11_4 = some (r1, r2)) ∧ Aside0 (kq ≤ k) ∧ Drawn0 w wc)
        case first =>
          have H := HC5.out
          clear HC5
          by_cases c6 : a0 = 120
          · rw [if_pos c6] at H
            have c6b0 : (a0 == 120) = true := beq_iff_eq.mpr c6
            have c6b1 : (a0 != 120) = false := bne_eq_false_iff_eq.mpr c6
            clear c6
            (first | rw [c6b0] | (simp only [i64_w, i32_w]; rw [c6b0]) | rw [c6b1] | skip)
            have H' := Aside0.mk H
            clear H
            go_wp2
            go_meet
            case rel => exact ⟨_, ((a0 == 120)), (by first | rfl | (simp; done) | (simp [*]; done)), H', ⟨by first | omega | exact Nat.le_refl _⟩, by repeat (first | exact Drawn0.refl _ | apply Drawn0.step)⟩
          · rw [if_neg c6] at H
            have c6b0 : (a0 == 120) = false := beq_eq_false_iff_ne.mpr c6
            have c6b1 : (a0 != 120) = true := bne_iff_ne.mpr c6
            (first | rw [c6b0] | (simp only [i64_w, i32_w]; rw [c6b0]) | rw [c6b1] | skip)
            by_cases c7 : a0 = 110
            · rw [if_pos c7] at H
              have c7b0 : (a0 == 110) = true := beq_iff_eq.mpr c7
              have c7b1 : (a0 != 110) = false := bne_eq_false_iff_eq.mpr c7
              clear c7
              have H' := Aside0.mk H
              clear H
              go_wp2
              go_meet
              case rel => exact ⟨_, ((a0 == 110)), (by first | rfl | (simp; done) | (simp [*]; done)), H', ⟨by first | omega | exact Nat.le_refl _⟩, by repeat (first | exact Drawn0.refl _ | apply Drawn0.step)⟩
            · rw [if_neg c7] at H
              have c7b0 : (a0 == 110) = false := beq_eq_false_iff_ne.mpr c7
              have c7b1 : (a0 != 110) = true := bne_iff_ne.mpr c7
              have H' := Aside0.mk H
              clear H
              go_wp2
              go_meet
              case rel => exact ⟨_, ((a0 == 105)), (by first | rfl | (simp; done) | (simp [*]; done)), H', ⟨by first | omega | exact Nat.le_refl _⟩, by repeat (first | exact Drawn0.refl _ | apply Drawn0.step)⟩
        case rest =>
          clear HC5
          try clear c2
          try clear c2b0
          try clear c2b1
          try clear p2
          try clear c3
          try clear c3b0
          try clear c3b1
          try clear c4
          try clear c4b0
          try clear c4b1
          try clear c6
          try clear c6b0
          try clear c6b1
          try clear c7
          try clear c7b0
          try clear c7b1
          obtain ⟨kq, x11_4, rfl, HA, HJ4, ⟨mc4, rfl⟩⟩ := hcut
          cases kq with
          | zero => exact absurd HA.out (by simp [spec_rustBits.j0])
          | succ kj4 =>
            have H := HA.out
            clear HA
            simp only [spec_rustBits.j0] at H
            by_cases c8 : x11_4 = true
            · subst c8
              have H1 : (some (64, true)) = some (r1, r2) := by rw [if_pos rfl] at H; exact H
              clear H
              have H := H1
              clear H1
              simp only [Option.some.injEq, Prod.mk.injEq] at H
              obtain ⟨rfl, rfl⟩ := H
              go_wp2
              go_ret2
              exact ⟨by first | rfl | (simp; done) | (simp [*]; done), by repeat (first | exact Drawn0.refl _ | apply Drawn0.step)⟩
            · replace c8 := Bool.eq_false_iff.mpr c8
              subst c8
              have H1 : (if a0 = 104 then (some (8, false)) else (if a0 = 116 then (some (16, false)) else (if a0 = 109 then (some (32, false)) else (if a0 = 121 then (some (64, false)) else (if a0 = 111 then (some (64, false)) else (if a0 = 106 then (some (64, false)) else (some (0, false)))))))) = some (r1, r2) := by rw [if_neg (show ¬ (false = true) by decide)] at H; exact H
              clear H
              have H := H1
              clear H1
              by_cases c9 : a0 = 104
              · rw [if_pos c9] at H
                have c9b0 : (a0 == 104) = true := beq_iff_eq.mpr c9
                have c9b1 : (a0 != 104) = false := bne_eq_false_iff_eq.mpr c9
                clear c9
                simp only [Option.some.injEq, Prod.mk.injEq] at H
                obtain ⟨rfl, rfl⟩ := H
                go_wp2
                go_ret2
                exact ⟨by first | rfl | (simp; done) | (simp [*]; done), by repeat (first | exact Drawn0.refl _ | apply Drawn0.step)⟩
              · rw [if_neg c9] at H
                have c9b0 : (a0 == 104) = false := beq_eq_false_iff_ne.mpr c9
                have c9b1 : (a0 != 104) = true := bne_iff_ne.mpr c9
                by_cases c10 : a0 = 116
                · rw [if_pos c10] at H
                  have c10b0 : (a0 == 116) = true := beq_iff_eq.mpr c10
                  have c10b1 : (a0 != 116) = false := bne_eq_false_iff_eq.mpr c10
                  clear c10
                  simp only [Option.some.injEq, Prod.mk.injEq] at H
                  obtain ⟨rfl, rfl⟩ := H
                  go_wp2
                  go_ret2
                  exact ⟨by first | rfl | (simp; done) | (simp [*]; done), by repeat (first | exact Drawn0.refl _ | apply Drawn0.step)⟩
                · rw [if_neg c10] at H
                  have c10b0 : (a0 == 116) = false := beq_eq_false_iff_ne.mpr c10
                  have c10b1 : (a0 != 116) = true := bne_iff_ne.mpr c10
                  by_cases c11 : a0 = 109
                  · rw [if_pos c11] at H
                    have c11b0 : (a0 == 109) = true := beq_iff_eq.mpr c11
                    have c11b1 : (a0 != 109) = false := bne_eq_false_iff_eq.mpr c11
                    clear c11
                    simp only [Option.some.injEq, Prod.mk.injEq] at H
                    obtain ⟨rfl, rfl⟩ := H
                    go_wp2
                    go_ret2
                    exact ⟨by first | rfl | (simp; done) | (simp [*]; done), by repeat (first | exact Drawn0.refl _ | apply Drawn0.step)⟩
                  · rw [if_neg c11] at H
                    have c11b0 : (a0 == 109) = false := beq_eq_false_iff_ne.mpr c11
                    have c11b1 : (a0 != 109) = true := bne_iff_ne.mpr c11
                    by_cases c12 : a0 = 121
                    · rw [if_pos c12] at H
                      have c12b0 : (a0 == 121) = true := beq_iff_eq.mpr c12
                      have c12b1 : (a0 != 121) = false := bne_eq_false_iff_eq.mpr c12
                      clear c12
                      simp only [Option.some.injEq, Prod.mk.injEq] at H
                      obtain ⟨rfl, rfl⟩ := H
                      go_wp2
                      go_ret2
                      exact ⟨by first | rfl | (simp; done) | (simp [*]; done), by repeat (first | exact Drawn0.refl _ | apply Drawn0.step)⟩
                    · rw [if_neg c12] at H
                      have c12b0 : (a0 == 121) = false := beq_eq_false_iff_ne.mpr c12
                      have c12b1 : (a0 != 121) = true := bne_iff_ne.mpr c12
                      by_cases c13 : a0 = 111
                      · rw [if_pos c13] at H
                        have c13b0 : (a0 == 111) = true := beq_iff_eq.mpr c13
                        have c13b1 : (a0 != 111) = false := bne_eq_false_iff_eq.mpr c13
                        clear c13
                        simp only [Option.some.injEq, Prod.mk.injEq] at H
                        obtain ⟨rfl, rfl⟩ := H
                        go_wp2
                        go_ret2
                        exact ⟨by first | rfl | (simp; done) | (simp [*]; done), by repeat (first | exact Drawn0.refl _ | apply Drawn0.step)⟩
                      · rw [if_neg c13] at H
                        have c13b0 : (a0 == 111) = false := beq_eq_false_iff_ne.mpr c13
                        have c13b1 : (a0 != 111) = true := bne_iff_ne.mpr c13
                        by_cases c14 : a0 = 106
                        · rw [if_pos c14] at H
                          have c14b0 : (a0 == 106) = true := beq_iff_eq.mpr c14
                          have c14b1 : (a0 != 106) = false := bne_eq_false_iff_eq.mpr c14
                          clear c14
                          simp only [Option.some.injEq, Prod.mk.injEq] at H
                          obtain ⟨rfl, rfl⟩ := H
                          go_wp2
                          go_ret2
                          exact ⟨by first | rfl | (simp; done) | (simp [*]; done), by repeat (first | exact Drawn0.refl _ | apply Drawn0.step)⟩
                        · rw [if_neg c14] at H
                          have c14b0 : (a0 == 106) = false := beq_eq_false_iff_ne.mpr c14
                          have c14b1 : (a0 != 106) = true := bne_iff_ne.mpr c14
                          simp only [Option.some.injEq, Prod.mk.injEq] at H
                          obtain ⟨rfl, rfl⟩ := H
                          go_wp2
                          go_ret2
                          exact ⟨by first | rfl | (simp; done) | (simp [*]; done), by repeat (first | exact Drawn0.refl _ | apply Drawn0.step)⟩

/-! ### spec_rustNoConstant: function 23 -/
def spec_rustNoConstant.f (a0 : Int) : Option (Int) := if a0 ≥ 97 then (if a0 ≤ 122 then (some 2) else (if a0 ≥ 65 then (if a0 ≤ 90 then (some 2) else (some 1)) else (some 1))) else (if a0 ≥ 65 then (if a0 ≤ 90 then (some 2) else (some 1)) else (some 1))
set_option maxHeartbeats 8000000 in
set_option maxRecDepth 100000 in
theorem spec_rustNoConstant.calls (a0 : Int) (r : Int) (w : World) (h : spec_rustNoConstant.f a0 = some r) :
    Calls Tryd.prog 23 #[.int .u8 a0] w fun e w' => e = .returned (.int .i64 r) ∧ Drawn0 w w' := by
  have H : (if a0 ≥ 97 then (if a0 ≤ 122 then (some 2) else (if a0 ≥ 65 then (if a0 ≤ 90 then (some 2) else (some 1)) else (some 1))) else (if a0 ≥ 65 then (if a0 ≤ 90 then (some 2) else (some 1)) else (some 1))) = some r := h
  clear h
  by_cases c2 : a0 ≥ 97
  · rw [if_pos c2] at H
    have c2b0 : decide (97 ≤ a0) = true := decide_eq_true c2
    clear c2
    by_cases c3 : a0 ≤ 122
    · rw [if_pos c3] at H
      have c3b0 : decide (a0 ≤ 122) = true := decide_eq_true c3
      clear c3
      obtain rfl := Option.some.inj H
      go_enter Tryd.func23, Tryd.ntmps23
      go_wp2
      go_ret
      exact ⟨by first | rfl | (simp; done) | (simp [*]; done), by repeat (first | exact Drawn0.refl _ | apply Drawn0.step)⟩
    · rw [if_neg c3] at H
      have c3b0 : decide (a0 ≤ 122) = false := decide_eq_false c3
      clear c3
      by_cases c4 : a0 ≥ 65
      · rw [if_pos c4] at H
        have c4b0 : decide (65 ≤ a0) = true := decide_eq_true c4
        clear c4
        by_cases c5 : a0 ≤ 90
        · rw [if_pos c5] at H
          have c5b0 : decide (a0 ≤ 90) = true := decide_eq_true c5
          clear c5
          obtain rfl := Option.some.inj H
          go_enter Tryd.func23, Tryd.ntmps23
          go_wp2
          go_ret
          exact ⟨by first | rfl | (simp; done) | (simp [*]; done), by repeat (first | exact Drawn0.refl _ | apply Drawn0.step)⟩
        · rw [if_neg c5] at H
          have c5b0 : decide (a0 ≤ 90) = false := decide_eq_false c5
          clear c5
          obtain rfl := Option.some.inj H
          go_enter Tryd.func23, Tryd.ntmps23
          go_wp2
          go_ret
          exact ⟨by first | rfl | (simp; done) | (simp [*]; done), by repeat (first | exact Drawn0.refl _ | apply Drawn0.step)⟩
      · rw [if_neg c4] at H
        have c4b0 : decide (65 ≤ a0) = false := decide_eq_false c4
        clear c4
        obtain rfl := Option.some.inj H
        go_enter Tryd.func23, Tryd.ntmps23
        go_wp2
        go_ret
        exact ⟨by first | rfl | (simp; done) | (simp [*]; done), by repeat (first | exact Drawn0.refl _ | apply Drawn0.step)⟩
  · rw [if_neg c2] at H
    have c2b0 : decide (97 ≤ a0) = false := decide_eq_false c2
    clear c2
    by_cases c6 : a0 ≥ 65
    · rw [if_pos c6] at H
      have c6b0 : decide (65 ≤ a0) = true := decide_eq_true c6
      clear c6
      by_cases c7 : a0 ≤ 90
      · rw [if_pos c7] at H
        have c7b0 : decide (a0 ≤ 90) = true := decide_eq_true c7
        clear c7
        obtain rfl := Option.some.inj H
        go_enter Tryd.func23, Tryd.ntmps23
        go_wp2
        go_ret
        exact ⟨by first | rfl | (simp; done) | (simp [*]; done), by repeat (first | exact Drawn0.refl _ | apply Drawn0.step)⟩
      · rw [if_neg c7] at H
        have c7b0 : decide (a0 ≤ 90) = false := decide_eq_false c7
        clear c7
        obtain rfl := Option.some.inj H
        go_enter Tryd.func23, Tryd.ntmps23
        go_wp2
        go_ret
        exact ⟨by first | rfl | (simp; done) | (simp [*]; done), by repeat (first | exact Drawn0.refl _ | apply Drawn0.step)⟩
    · rw [if_neg c6] at H
      have c6b0 : decide (65 ≤ a0) = false := decide_eq_false c6
      clear c6
      obtain rfl := Option.some.inj H
      go_enter Tryd.func23, Tryd.ntmps23
      go_wp2
      go_ret
      exact ⟨by first | rfl | (simp; done) | (simp [*]; done), by repeat (first | exact Drawn0.refl _ | apply Drawn0.step)⟩

/-! ### spec_rustHexDigit: function 24 -/
def spec_rustHexDigit.j0 : Nat → Int → Bool → Option (Int)
  | 0, _, _ => none
  | k + 1, x0, x3 => if x3 = true then (some ((x0 - 48) % 256)) else (if x0 ≥ 97 then (if x0 ≤ 102 then (some (((x0 - 97) % 256) + 10)) else (some (-1))) else (some (-1)))
def spec_rustHexDigit.f (k : Nat) (a0 : Int) : Option (Int) := if a0 ≥ 48 then (spec_rustHexDigit.j0 k a0 (decide (a0 ≤ 57))) else (spec_rustHexDigit.j0 k a0 false)
theorem spec_rustHexDigit.mono_l : ∀ k, (∀ y0 y1, LeO (spec_rustHexDigit.j0 k y0 y1) (spec_rustHexDigit.j0 (k + 1) y0 y1))
  | 0 => fun _ _ r h => by simp [spec_rustHexDigit.j0] at h
  | k + 1 => by
    have ih0 := spec_rustHexDigit.mono_l k
    · intro y0 y1
      unfold spec_rustHexDigit.j0
      repeat' first
      | (with_reducible exact ih0 _ _)
      | (with_reducible exact LeO.refl _)
      | (with_reducible exact LeO.none _)
      | (with_reducible refine LeO.ite ?_ ?_)
      | (with_reducible refine LeO.bind ?_ (fun _ => ?_))
      | exact ih0 _ _
      | exact LeO.none _
      | refine LeO.ite ?_ ?_
      | refine LeO.bind ?_ (fun _ => ?_)
theorem spec_rustHexDigit.mono : ∀ a0 k, LeO (spec_rustHexDigit.f k a0) (spec_rustHexDigit.f (k + 1) a0) := by
  intro a0 k
  have ih0 := spec_rustHexDigit.mono_l k
  unfold spec_rustHexDigit.f
  repeat' first
      | (with_reducible exact ih0 _ _)
      | (with_reducible exact LeO.refl _)
      | (with_reducible exact LeO.none _)
      | (with_reducible refine LeO.ite ?_ ?_)
      | (with_reducible refine LeO.bind ?_ (fun _ => ?_))
      | exact ih0 _ _
      | exact LeO.none _
      | refine LeO.ite ?_ ?_
      | refine LeO.bind ?_ (fun _ => ?_)
set_option maxHeartbeats 8000000 in
set_option maxRecDepth 100000 in
theorem spec_rustHexDigit.calls (k : Nat) (a0 : Int) (r : Int) (w : World) (h : spec_rustHexDigit.f k a0 = some r) :
    Calls Tryd.prog 24 #[.int .u8 a0] w fun e w' => e = .returned (.int .i64 r) ∧ Drawn0 w w' := by
  have H : (if a0 ≥ 48 then (spec_rustHexDigit.j0 k a0 (decide (a0 ≤ 57))) else (spec_rustHexDigit.j0 k a0 false)) = some r := h
  clear h
  have HC2 := Aside0.mk H
  clear H
  go_enter Tryd.func24, Tryd.ntmps24
  go_upto_region 1 with (fail)
  go_cut [3] (fun v3 wc => ∃ (kq : Nat) (x3_1 : Bool), v3 = .bool x3_1 ∧ Aside0 (spec_rustHexDigit.j0 kq a0 x3_1 = some r) ∧ Aside0 (kq ≤ k) ∧ Drawn0 w wc)
  case first =>
    have H := HC2.out
    clear HC2
    by_cases c3 : a0 ≥ 48
    · rw [if_pos c3] at H
      have c3b0 : decide (48 ≤ a0) = true := decide_eq_true c3
      clear c3
      (first | rw [c3b0] | (simp only [i64_w, i32_w]; rw [c3b0]) | rw [c3b1] | skip)
      have H' := Aside0.mk H
      clear H
      go_wp2
      go_meet
      case rel => exact ⟨_, (decide (a0 ≤ 57)), (by first | rfl | (simp; done) | (simp [*]; done)), H', ⟨by first | omega | exact Nat.le_refl _⟩, by repeat (first | exact Drawn0.refl _ | apply Drawn0.step)⟩
    · rw [if_neg c3] at H
      have c3b0 : decide (48 ≤ a0) = false := decide_eq_false c3
      clear c3
      (first | rw [c3b0] | (simp only [i64_w, i32_w]; rw [c3b0]) | rw [c3b1] | skip)
      have H' := Aside0.mk H
      clear H
      go_wp2
      go_meet
      case rel => exact ⟨_, (false), (by first | rfl | (simp; done) | (simp [*]; done)), H', ⟨by first | omega | exact Nat.le_refl _⟩, by repeat (first | exact Drawn0.refl _ | apply Drawn0.step)⟩
  case rest =>
    clear HC2
    try clear c2
    try clear p2
    try clear c3
    try clear c3b0
    obtain ⟨kq, x3_1, rfl, HA, HJ1, ⟨mc1, rfl⟩⟩ := hcut
    cases kq with
    | zero => exact absurd HA.out (by simp [spec_rustHexDigit.j0])
    | succ kj1 =>
      have H := HA.out
      clear HA
      simp only [spec_rustHexDigit.j0] at H
      by_cases c4 : x3_1 = true
      · subst c4
        have H1 : (some ((a0 - 48) % 256)) = some r := by rw [if_pos rfl] at H; exact H
        clear H
        have H := H1
        clear H1
        obtain rfl := Option.some.inj H
        go_wp2
        go_ret
        exact ⟨by first | rfl | (simp; done) | (simp [*]; done), by repeat (first | exact Drawn0.refl _ | apply Drawn0.step)⟩
      · replace c4 := Bool.eq_false_iff.mpr c4
        subst c4
        have H1 : (if a0 ≥ 97 then (if a0 ≤ 102 then (some (((a0 - 97) % 256) + 10)) else (some (-1))) else (some (-1))) = some r := by rw [if_neg (show ¬ (false = true) by decide)] at H; exact H
        clear H
        have H := H1
        clear H1
        by_cases c5 : a0 ≥ 97
        · rw [if_pos c5] at H
          have c5b0 : decide (97 ≤ a0) = true := decide_eq_true c5
          clear c5
          by_cases c6 : a0 ≤ 102
          · rw [if_pos c6] at H
            have c6b0 : decide (a0 ≤ 102) = true := decide_eq_true c6
            clear c6
            obtain rfl := Option.some.inj H
            go_wp2
            go_ret
            exact ⟨by first | rfl | (simp; done) | (simp [*]; done), by repeat (first | exact Drawn0.refl _ | apply Drawn0.step)⟩
          · rw [if_neg c6] at H
            have c6b0 : decide (a0 ≤ 102) = false := decide_eq_false c6
            clear c6
            obtain rfl := Option.some.inj H
            go_wp2
            go_ret
            exact ⟨by first | rfl | (simp; done) | (simp [*]; done), by repeat (first | exact Drawn0.refl _ | apply Drawn0.step)⟩
        · rw [if_neg c5] at H
          have c5b0 : decide (97 ≤ a0) = false := decide_eq_false c5
          clear c5
          obtain rfl := Option.some.inj H
          go_wp2
          go_ret
          exact ⟨by first | rfl | (simp; done) | (simp [*]; done), by repeat (first | exact Drawn0.refl _ | apply Drawn0.step)⟩

end Go.Proofs.YtaegllbokgjoeaaDoor.PconstantHere
