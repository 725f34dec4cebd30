/- Written by a program of this session (wip/tools/myprint.py) with the kit's print: contracts of the functions that one statement reaches; functions that are proved by hand are taken as printed. Conditions: none. -/
import Derived.Test.YtpmlnhddkbgefaaDoorPlistx0
namespace Go.Proofs.YtpmlnhddkbgefaaDoor.Plist
open Go.RowKit Go.Proofs.YtpmlnhddkbgefaaDoorW.PrintWords Go.Proofs.YtpmlnhddkbgefaaDoorW.PrintLast Go.Proofs.YtpmlnhddkbgefaaDoorW.PrintMore
attribute [local go_sem] max2_int min2_int max_two min_two max_three min_three max_four min_four   -- for this text's walks alone
set_option linter.unusedVariables false
set_option linter.unusedSimpArgs false

/-! ### impl_Options_list: function 49 -/
mutual
def impl_Options_list.j0 : Nat → List Int → Bool → Bool → Bool → Bool → Bool → Bool → Bool → Int → Option (List Int)
  | 0, _, _, _, _, _, _, _, _, _ => none
  | k + 1, x3, x102000, x102001, x102002, x102003, x102004, x102005, x102006, x102007 => if x102001 = true then (if x3.length < 17592186044416 then (impl_Options_list.j1 k (x3 ++ [1]) x102000 x102001 x102002 x102003 x102004 x102005 x102006 x102007) else (none)) else (impl_Options_list.j1 k x3 x102000 x102001 x102002 x102003 x102004 x102005 x102006 x102007)
def impl_Options_list.j1 : Nat → List Int → Bool → Bool → Bool → Bool → Bool → Bool → Bool → Int → Option (List Int)
  | 0, _, _, _, _, _, _, _, _, _ => none
  | k + 1, x3, x102000, x102001, x102002, x102003, x102004, x102005, x102006, x102007 => if x102002 = true then (if x3.length < 17592186044416 then (impl_Options_list.j2 k (x3 ++ [2]) x102000 x102001 x102002 x102003 x102004 x102005 x102006 x102007) else (none)) else (impl_Options_list.j2 k x3 x102000 x102001 x102002 x102003 x102004 x102005 x102006 x102007)
def impl_Options_list.j2 : Nat → List Int → Bool → Bool → Bool → Bool → Bool → Bool → Bool → Int → Option (List Int)
  | 0, _, _, _, _, _, _, _, _, _ => none
  | k + 1, x3, x102000, x102001, x102002, x102003, x102004, x102005, x102006, x102007 => if x102003 = true then (if x3.length < 17592186044416 then (impl_Options_list.j3 k (x3 ++ [3]) x102000 x102001 x102002 x102003 x102004 x102005 x102006 x102007) else (none)) else (impl_Options_list.j3 k x3 x102000 x102001 x102002 x102003 x102004 x102005 x102006 x102007)
def impl_Options_list.j3 : Nat → List Int → Bool → Bool → Bool → Bool → Bool → Bool → Bool → Int → Option (List Int)
  | 0, _, _, _, _, _, _, _, _, _ => none
  | k + 1, x3, x102000, x102001, x102002, x102003, x102004, x102005, x102006, x102007 => if x102004 = true then (if x3.length < 17592186044416 then (impl_Options_list.j4 k (x3 ++ [4]) x102000 x102001 x102002 x102003 x102004 x102005 x102006 x102007) else (none)) else (impl_Options_list.j4 k x3 x102000 x102001 x102002 x102003 x102004 x102005 x102006 x102007)
def impl_Options_list.j4 : Nat → List Int → Bool → Bool → Bool → Bool → Bool → Bool → Bool → Int → Option (List Int)
  | 0, _, _, _, _, _, _, _, _, _ => none
  | k + 1, x3, x102000, x102001, x102002, x102003, x102004, x102005, x102006, x102007 => if x102005 = true then (if x3.length < 17592186044416 then (impl_Options_list.j5 k (x3 ++ [5]) x102000 x102001 x102002 x102003 x102004 x102005 x102006 x102007) else (none)) else (impl_Options_list.j5 k x3 x102000 x102001 x102002 x102003 x102004 x102005 x102006 x102007)
def impl_Options_list.j5 : Nat → List Int → Bool → Bool → Bool → Bool → Bool → Bool → Bool → Int → Option (List Int)
  | 0, _, _, _, _, _, _, _, _, _ => none
  | k + 1, x3, x102000, x102001, x102002, x102003, x102004, x102005, x102006, x102007 => if x102006 = true then (if x3.length < 17592186044416 then ((some (x3 ++ [6] : List Int)).bind fun y120 => (if x102007 = 0 then (some y120) else ((demangle_MaxLength.f x102007).bind fun t123 => (if y120.length < 17592186044416 then (some (y120 ++ [t123])) else (none))))) else (none)) else (if x102007 = 0 then (some x3) else ((demangle_MaxLength.f x102007).bind fun t127 => (if x3.length < 17592186044416 then (some (x3 ++ [t127])) else (none))))
end
def impl_Options_list.f (k : Nat) (a0_0 : Bool) (a0_1 : Bool) (a0_2 : Bool) (a0_3 : Bool) (a0_4 : Bool) (a0_5 : Bool) (a0_6 : Bool) (a0_7 : Int) : Option (List Int) := if a0_0 = true then (if ([] : List Int).length < 17592186044416 then (impl_Options_list.j0 k (([] : List Int) ++ [0]) a0_0 a0_1 a0_2 a0_3 a0_4 a0_5 a0_6 a0_7) else (none)) else (impl_Options_list.j0 k ([] : List Int) a0_0 a0_1 a0_2 a0_3 a0_4 a0_5 a0_6 a0_7)
theorem impl_Options_list.mono_l : ∀ k, (∀ y0 y1 y2 y3 y4 y5 y6 y7 y8, LeO (impl_Options_list.j0 k y0 y1 y2 y3 y4 y5 y6 y7 y8) (impl_Options_list.j0 (k + 1) y0 y1 y2 y3 y4 y5 y6 y7 y8)) ∧ (∀ y0 y1 y2 y3 y4 y5 y6 y7 y8, LeO (impl_Options_list.j1 k y0 y1 y2 y3 y4 y5 y6 y7 y8) (impl_Options_list.j1 (k + 1) y0 y1 y2 y3 y4 y5 y6 y7 y8)) ∧ (∀ y0 y1 y2 y3 y4 y5 y6 y7 y8, LeO (impl_Options_list.j2 k y0 y1 y2 y3 y4 y5 y6 y7 y8) (impl_Options_list.j2 (k + 1) y0 y1 y2 y3 y4 y5 y6 y7 y8)) ∧ (∀ y0 y1 y2 y3 y4 y5 y6 y7 y8, LeO (impl_Options_list.j3 k y0 y1 y2 y3 y4 y5 y6 y7 y8) (impl_Options_list.j3 (k + 1) y0 y1 y2 y3 y4 y5 y6 y7 y8)) ∧ (∀ y0 y1 y2 y3 y4 y5 y6 y7 y8, LeO (impl_Options_list.j4 k y0 y1 y2 y3 y4 y5 y6 y7 y8) (impl_Options_list.j4 (k + 1) y0 y1 y2 y3 y4 y5 y6 y7 y8)) ∧ (∀ y0 y1 y2 y3 y4 y5 y6 y7 y8, LeO (impl_Options_list.j5 k y0 y1 y2 y3 y4 y5 y6 y7 y8) (impl_Options_list.j5 (k + 1) y0 y1 y2 y3 y4 y5 y6 y7 y8))
  | 0 => ⟨fun _ _ _ _ _ _ _ _ _ r h => by simp [impl_Options_list.j0] at h, fun _ _ _ _ _ _ _ _ _ r h => by simp [impl_Options_list.j1] at h, fun _ _ _ _ _ _ _ _ _ r h => by simp [impl_Options_list.j2] at h, fun _ _ _ _ _ _ _ _ _ r h => by simp [impl_Options_list.j3] at h, fun _ _ _ _ _ _ _ _ _ r h => by simp [impl_Options_list.j4] at h, fun _ _ _ _ _ _ _ _ _ r h => by simp [impl_Options_list.j5] at h⟩
  | k + 1 => by
    obtain ⟨ih0, ih1, ih2, ih3, ih4, ih5⟩ := impl_Options_list.mono_l k
    refine ⟨?_, ?_, ?_, ?_, ?_, ?_⟩
    · intro y0 y1 y2 y3 y4 y5 y6 y7 y8
      unfold impl_Options_list.j0
      repeat' first
      | (with_reducible exact ih0 _ _ _ _ _ _ _ _ _)
      | (with_reducible exact ih1 _ _ _ _ _ _ _ _ _)
      | (with_reducible exact ih2 _ _ _ _ _ _ _ _ _)
      | (with_reducible exact ih3 _ _ _ _ _ _ _ _ _)
      | (with_reducible exact ih4 _ _ _ _ _ _ _ _ _)
      | (with_reducible exact ih5 _ _ _ _ _ _ _ _ _)
      | (with_reducible exact LeO.refl _)
      | (with_reducible exact LeO.none _)
      | (with_reducible refine LeO.ite ?_ ?_)
      | (with_reducible refine LeO.bind ?_ (fun _ => ?_))
      | exact ih0 _ _ _ _ _ _ _ _ _
      | exact ih1 _ _ _ _ _ _ _ _ _
      | exact ih2 _ _ _ _ _ _ _ _ _
      | exact ih3 _ _ _ _ _ _ _ _ _
      | exact ih4 _ _ _ _ _ _ _ _ _
      | exact ih5 _ _ _ _ _ _ _ _ _
      | exact LeO.none _
      | refine LeO.ite ?_ ?_
      | refine LeO.bind ?_ (fun _ => ?_)
    · intro y0 y1 y2 y3 y4 y5 y6 y7 y8
      unfold impl_Options_list.j1
      repeat' first
      | (with_reducible exact ih0 _ _ _ _ _ _ _ _ _)
      | (with_reducible exact ih1 _ _ _ _ _ _ _ _ _)
      | (with_reducible exact ih2 _ _ _ _ _ _ _ _ _)
      | (with_reducible exact ih3 _ _ _ _ _ _ _ _ _)
      | (with_reducible exact ih4 _ _ _ _ _ _ _ _ _)
      | (with_reducible exact ih5 _ _ _ _ _ _ _ _ _)
      | (with_reducible exact LeO.refl _)
      | (with_reducible exact LeO.none _)
      | (with_reducible refine LeO.ite ?_ ?_)
      | (with_reducible refine LeO.bind ?_ (fun _ => ?_))
      | exact ih0 _ _ _ _ _ _ _ _ _
      | exact ih1 _ _ _ _ _ _ _ _ _
      | exact ih2 _ _ _ _ _ _ _ _ _
      | exact ih3 _ _ _ _ _ _ _ _ _
      | exact ih4 _ _ _ _ _ _ _ _ _
      | exact ih5 _ _ _ _ _ _ _ _ _
      | exact LeO.none _
      | refine LeO.ite ?_ ?_
      | refine LeO.bind ?_ (fun _ => ?_)
    · intro y0 y1 y2 y3 y4 y5 y6 y7 y8
      unfold impl_Options_list.j2
      repeat' first
      | (with_reducible exact ih0 _ _ _ _ _ _ _ _ _)
      | (with_reducible exact ih1 _ _ _ _ _ _ _ _ _)
      | (with_reducible exact ih2 _ _ _ _ _ _ _ _ _)
      | (with_reducible exact ih3 _ _ _ _ _ _ _ _ _)
      | (with_reducible exact ih4 _ _ _ _ _ _ _ _ _)
      | (with_reducible exact ih5 _ _ _ _ _ _ _ _ _)
      | (with_reducible exact LeO.refl _)
      | (with_reducible exact LeO.none _)
      | (with_reducible refine LeO.ite ?_ ?_)
      | (with_reducible refine LeO.bind ?_ (fun _ => ?_))
      | exact ih0 _ _ _ _ _ _ _ _ _
      | exact ih1 _ _ _ _ _ _ _ _ _
      | exact ih2 _ _ _ _ _ _ _ _ _
      | exact ih3 _ _ _ _ _ _ _ _ _
      | exact ih4 _ _ _ _ _ _ _ _ _
      | exact ih5 _ _ _ _ _ _ _ _ _
      | exact LeO.none _
      | refine LeO.ite ?_ ?_
      | refine LeO.bind ?_ (fun _ => ?_)
    · intro y0 y1 y2 y3 y4 y5 y6 y7 y8
      unfold impl_Options_list.j3
      repeat' first
      | (with_reducible exact ih0 _ _ _ _ _ _ _ _ _)
      | (with_reducible exact ih1 _ _ _ _ _ _ _ _ _)
      | (with_reducible exact ih2 _ _ _ _ _ _ _ _ _)
      | (with_reducible exact ih3 _ _ _ _ _ _ _ _ _)
      | (with_reducible exact ih4 _ _ _ _ _ _ _ _ _)
      | (with_reducible exact ih5 _ _ _ _ _ _ _ _ _)
      | (with_reducible exact LeO.refl _)
      | (with_reducible exact LeO.none _)
      | (with_reducible refine LeO.ite ?_ ?_)
      | (with_reducible refine LeO.bind ?_ (fun _ => ?_))
      | exact ih0 _ _ _ _ _ _ _ _ _
      | exact ih1 _ _ _ _ _ _ _ _ _
      | exact ih2 _ _ _ _ _ _ _ _ _
      | exact ih3 _ _ _ _ _ _ _ _ _
      | exact ih4 _ _ _ _ _ _ _ _ _
      | exact ih5 _ _ _ _ _ _ _ _ _
      | exact LeO.none _
      | refine LeO.ite ?_ ?_
      | refine LeO.bind ?_ (fun _ => ?_)
    · intro y0 y1 y2 y3 y4 y5 y6 y7 y8
      unfold impl_Options_list.j4
      repeat' first
      | (with_reducible exact ih0 _ _ _ _ _ _ _ _ _)
      | (with_reducible exact ih1 _ _ _ _ _ _ _ _ _)
      | (with_reducible exact ih2 _ _ _ _ _ _ _ _ _)
      | (with_reducible exact ih3 _ _ _ _ _ _ _ _ _)
      | (with_reducible exact ih4 _ _ _ _ _ _ _ _ _)
      | (with_reducible exact ih5 _ _ _ _ _ _ _ _ _)
      | (with_reducible exact LeO.refl _)
      | (with_reducible exact LeO.none _)
      | (with_reducible refine LeO.ite ?_ ?_)
      | (with_reducible refine LeO.bind ?_ (fun _ => ?_))
      | exact ih0 _ _ _ _ _ _ _ _ _
      | exact ih1 _ _ _ _ _ _ _ _ _
      | exact ih2 _ _ _ _ _ _ _ _ _
      | exact ih3 _ _ _ _ _ _ _ _ _
      | exact ih4 _ _ _ _ _ _ _ _ _
      | exact ih5 _ _ _ _ _ _ _ _ _
      | exact LeO.none _
      | refine LeO.ite ?_ ?_
      | refine LeO.bind ?_ (fun _ => ?_)
    · intro y0 y1 y2 y3 y4 y5 y6 y7 y8
      unfold impl_Options_list.j5
      repeat' first
      | (with_reducible exact ih0 _ _ _ _ _ _ _ _ _)
      | (with_reducible exact ih1 _ _ _ _ _ _ _ _ _)
      | (with_reducible exact ih2 _ _ _ _ _ _ _ _ _)
      | (with_reducible exact ih3 _ _ _ _ _ _ _ _ _)
      | (with_reducible exact ih4 _ _ _ _ _ _ _ _ _)
      | (with_reducible exact ih5 _ _ _ _ _ _ _ _ _)
      | (with_reducible exact LeO.refl _)
      | (with_reducible exact LeO.none _)
      | (with_reducible refine LeO.ite ?_ ?_)
      | (with_reducible refine LeO.bind ?_ (fun _ => ?_))
      | exact ih0 _ _ _ _ _ _ _ _ _
      | exact ih1 _ _ _ _ _ _ _ _ _
      | exact ih2 _ _ _ _ _ _ _ _ _
      | exact ih3 _ _ _ _ _ _ _ _ _
      | exact ih4 _ _ _ _ _ _ _ _ _
      | exact ih5 _ _ _ _ _ _ _ _ _
      | exact LeO.none _
      | refine LeO.ite ?_ ?_
      | refine LeO.bind ?_ (fun _ => ?_)
theorem impl_Options_list.mono : ∀ a0 a1 a2 a3 a4 a5 a6 a7 k, LeO (impl_Options_list.f k a0 a1 a2 a3 a4 a5 a6 a7) (impl_Options_list.f (k + 1) a0 a1 a2 a3 a4 a5 a6 a7) := by
  intro a0 a1 a2 a3 a4 a5 a6 a7 k
  obtain ⟨ih0, ih1, ih2, ih3, ih4, ih5⟩ := impl_Options_list.mono_l k
  unfold impl_Options_list.f
  repeat' first
      | (with_reducible exact ih0 _ _ _ _ _ _ _ _ _)
      | (with_reducible exact ih1 _ _ _ _ _ _ _ _ _)
      | (with_reducible exact ih2 _ _ _ _ _ _ _ _ _)
      | (with_reducible exact ih3 _ _ _ _ _ _ _ _ _)
      | (with_reducible exact ih4 _ _ _ _ _ _ _ _ _)
      | (with_reducible exact ih5 _ _ _ _ _ _ _ _ _)
      | (with_reducible exact LeO.refl _)
      | (with_reducible exact LeO.none _)
      | (with_reducible refine LeO.ite ?_ ?_)
      | (with_reducible refine LeO.bind ?_ (fun _ => ?_))
      | exact ih0 _ _ _ _ _ _ _ _ _
      | exact ih1 _ _ _ _ _ _ _ _ _
      | exact ih2 _ _ _ _ _ _ _ _ _
      | exact ih3 _ _ _ _ _ _ _ _ _
      | exact ih4 _ _ _ _ _ _ _ _ _
      | exact ih5 _ _ _ _ _ _ _ _ _
      | exact LeO.none _
      | refine LeO.ite ?_ ?_
      | refine LeO.bind ?_ (fun _ => ?_)
set_option maxHeartbeats 8000000 in
set_option maxRecDepth 100000 in
theorem impl_Options_list.calls (k : Nat) (a0_0 : Bool) (a0_1 : Bool) (a0_2 : Bool) (a0_3 : Bool) (a0_4 : Bool) (a0_5 : Bool) (a0_6 : Bool) (a0_7 : Int) (r : List Int) (w : World) (h : impl_Options_list.f k a0_0 a0_1 a0_2 a0_3 a0_4 a0_5 a0_6 a0_7 = some r) :
    Calls Tryd.prog 49 #[.agg #[.bool a0_0, .bool a0_1, .bool a0_2, .bool a0_3, .bool a0_4, .bool a0_5, .bool a0_6, .int .i64 a0_7]] w fun e w' => ∃ v0_ : Value, e = .returned (v0_) ∧ Kd.R (Kd.int .i64) 108 w' w.heap.size (fun _ => True) v0_ r ∧ Below w.heap.size w w' := by
  have hu67 := Tryd.underlying67
  have HB := Aside0.mk (Below.refl w.heap.size w)
  have H : (if a0_0 = true then (if ([] : List Int).length < 17592186044416 then (impl_Options_list.j0 k (([] : List Int) ++ [0]) a0_0 a0_1 a0_2 a0_3 a0_4 a0_5 a0_6 a0_7) else (none)) else (impl_Options_list.j0 k ([] : List Int) a0_0 a0_1 a0_2 a0_3 a0_4 a0_5 a0_6 a0_7)) = some r := h
  clear h
  have HC2 := Aside0.mk H
  clear H
  go_enter Tryd.func49, Tryd.ntmps49
  go_upto_if 5 with (first | ((with_reducible refine gate_dst (N := 1) rfl ?_); refine box_event ?hg (N := 1) ?hd (cs := #[.bool a0_0, .bool a0_1, .bool a0_2, .bool a0_3, .bool a0_4, .bool a0_5, .bool a0_6, .int .i64 a0_7]) (t := 67) ?hr ?_; (case hd => rfl); (case hg => rfl); (case hr => first | (go_simp; done) | (go_simp; rfl)); intro gb101 hg w3 hbox hb; have n0_ := Aside0.mk (below_step (by repeat (first | (with_reducible first | exact HB.out | apply below_alloc | apply pw_below_drewN | apply below_drew1) | exact HB.out)) hb); have n1_ := Aside0.mk (hbox); have n2_ := Aside0.mk ((by rw [hg]; exact (below_size (by repeat (first | (with_reducible first | exact HB.out | apply below_alloc | apply pw_below_drewN | apply below_drew1) | exact HB.out))) : w.heap.size ≤ gb101)); have n3_ := Aside0.mk ((by rw [hg]; exact (below_size (by repeat (first | (with_reducible first | exact HB.out | apply below_alloc | apply pw_below_drewN | apply below_drew1) | exact HB.out))) : w.heap.size ≤ gb101)); clear HB; have HB := n0_; have BK101 := n1_; have GW101 := n2_; have GE101 := n3_; clear n0_ n1_ n2_ n3_; clear hb hbox hg; have hcz4_0 : w3.cell? ⟨gb101, 0, none⟩ = some (.bool a0_0) := (blk_cell BK101.out 0).trans rfl; have hcz4_1 : w3.cell? ⟨gb101, 1, none⟩ = some (.bool a0_1) := (blk_cell BK101.out 1).trans rfl; have hcz4_2 : w3.cell? ⟨gb101, 2, none⟩ = some (.bool a0_2) := (blk_cell BK101.out 2).trans rfl; have hcz4_3 : w3.cell? ⟨gb101, 3, none⟩ = some (.bool a0_3) := (blk_cell BK101.out 3).trans rfl; have hcz4_4 : w3.cell? ⟨gb101, 4, none⟩ = some (.bool a0_4) := (blk_cell BK101.out 4).trans rfl; have hcz4_5 : w3.cell? ⟨gb101, 5, none⟩ = some (.bool a0_5) := (blk_cell BK101.out 5).trans rfl; have hcz4_6 : w3.cell? ⟨gb101, 6, none⟩ = some (.bool a0_6) := (blk_cell BK101.out 6).trans rfl; have hcz4_7 : w3.cell? ⟨gb101, 7, none⟩ = some (.int .i64 a0_7) := (blk_cell BK101.out 7).trans rfl; have hfz4_0 := blk_frozen BK101.out 0; have hfz4_1 := blk_frozen BK101.out 1; have hfz4_2 := blk_frozen BK101.out 2; have hfz4_3 := blk_frozen BK101.out 3; have hfz4_4 := blk_frozen BK101.out 4; have hfz4_5 := blk_frozen BK101.out 5; have hfz4_6 := blk_frozen BK101.out 6; have hfz4_7 := blk_frozen BK101.out 7))
  (try simp only [Act.put, List.setIfInBounds_toArray, List.set_cons_zero, List.set_cons_succ])
  go_cut [3] (fun v3 wc => ∃ (kq : Nat) (x3_1 : List Int), Aside0 (impl_Options_list.j0 kq x3_1 a0_0 a0_1 a0_2 a0_3 a0_4 a0_5 a0_6 a0_7 = some r) ∧ Aside0 (kq ≤ k) ∧ Aside0 (Kd.R (Kd.int .i64) 108 wc w.heap.size (fun _ => True) v3 x3_1) ∧ Aside0 (wc.heap[gb101]? = some (.cells #[.bool a0_0, .bool a0_1, .bool a0_2, .bool a0_3, .bool a0_4, .bool a0_5, .bool a0_6, .int .i64 a0_7] 67 (0, 0))) ∧ Aside0 (Below w.heap.size w wc))
  case first =>
    have H := HC2.out
    clear HC2
    by_cases c5 : a0_0 = true
    · subst c5
      have H1 : (if ([] : List Int).length < 17592186044416 then (impl_Options_list.j0 k (([] : List Int) ++ [0]) true a0_1 a0_2 a0_3 a0_4 a0_5 a0_6 a0_7) else (none)) = some r := by rw [if_pos rfl] at H; exact H
      clear H
      have H := H1
      clear H1
      by_cases c6 : ([] : List Int).length < 17592186044416
      · rw [if_pos c6] at H
        have LMc6 := Aside0.mk c6
        clear c6
        obtain ⟨y102, hy102⟩ : ∃ y_ : List Int, y_ = (([] : List Int) ++ [0]) := ⟨_, rfl⟩
        replace H : (impl_Options_list.j0 k y102 true a0_1 a0_2 a0_3 a0_4 a0_5 a0_6 a0_7) = some r := by first | (rw [hy102]; with_reducible exact H) | (have H2_ := (Option.bind_some _ _).symm.trans H; rw [hy102]; with_reducible exact H2_) | (have H2_ := (Option.bind_some _ _).symm.trans H; with_reducible exact H2_) | with_reducible exact H | (rw [hy102]; exact H) | exact H
        have Ny102 := Aside0.mk hy102
        clear hy102
        have H' := Aside0.mk H
        clear H
        go_wp2_with (first | ((with_reducible refine gate_builtin (b := .append) (xs := #[.tmp 6, .tmp 7]) rfl ?_); at_builtin; refine Kd.R_append (Kd.int .i64) (w0 := w) w.heap.size rfl (.tmp 6) (.tmp 7) 91 108 (.int .i64 0) 8 rfl Tryd.underlying91 info108 rfl (by decide) (by omega) (.slice none 0 0) ([] : List Int) 0 [.int .i64 0] (fun _ => True) (fun _ => False) rfl rfl ?aP (fun _ hk => hk.elim) ?aF ?aO ?aB ?aS ?aL ?_; (case aP => exact rfl); (case aB => exact (by repeat (first | (with_reducible first | exact HB.out | apply below_alloc | apply pw_below_drewN | apply below_drew1 | refine below_set ?_ GE101.out) | exact HB.out))); (case aF => exact (fun _ _ => trivial)); (case aO => exact ((Kd.R_nil _ _ _ _ (fun _ => True)))); (case aS => exact (below_size (by repeat (first | (with_reducible first | exact HB.out | apply below_alloc | apply pw_below_drewN | apply below_drew1 | refine below_set ?_ GE101.out) | exact HB.out)))); (case aL => have := LMc6.out; omega); intro v103 w7 ho hb hg hat; rw [← Ny102.out] at ho; have n0_ := Aside0.mk (blk_grown (g := gb101) (o := .cells #[.bool true, .bool a0_1, .bool a0_2, .bool a0_3, .bool a0_4, .bool a0_5, .bool a0_6, .int .i64 a0_7] 67 (0, 0)) (by (with_reducible repeat (first | refine blk_drewN ?_ _ | refine blk_drew ?_ | refine blk_alloc ?_ _)); exact BK101.out) hg (by simp [Value.ownBlock])); have n1_ := Aside0.mk (hb); have n2_ := Aside0.mk (ho); clear BK101; clear HB; have BK101 := n0_; have HB := n1_; have HO104 := n2_; clear n0_ n1_ n2_; clear ho hb hg hat))
        go_meet
        case rel => exact ⟨_, (y102), H', ⟨by first | omega | exact Nat.le_refl _⟩, ⟨by (with_reducible repeat (first | apply Kd.R_alloc | apply Kd.R_drewN | apply Kd.R_drew)); exact HO104.out⟩, ⟨by (with_reducible repeat (first | refine blk_drewN ?_ _ | refine blk_drew ?_ | refine blk_alloc ?_ _)); exact BK101.out⟩, ⟨by repeat (first | (with_reducible first | exact HB.out | apply below_alloc | apply pw_below_drewN | apply below_drew1 | refine below_set ?_ GE101.out) | exact HB.out)⟩⟩
      · rw [if_neg c6] at H
        exact absurd H (by simp)
    · replace c5 := Bool.eq_false_iff.mpr c5
      subst c5
      have H1 : (impl_Options_list.j0 k ([] : List Int) false a0_1 a0_2 a0_3 a0_4 a0_5 a0_6 a0_7) = some r := by rw [if_neg (show ¬ (false = true) by decide)] at H; exact H
      clear H
      have H := H1
      clear H1
      have H' := Aside0.mk H
      clear H
      go_wp2
      go_meet
      case rel => exact ⟨_, (([] : List Int)), H', ⟨by first | omega | exact Nat.le_refl _⟩, ⟨by first | exact Kd.R_nil _ _ _ _ _ | exact Kd.N_nil _ _ _ _ _ | exact Kd.V_nil _ _ _ _ _ | exact Kd.Q_nil _ _ _ _ _ | exact Kd.S_nil _ _ _ _ _⟩, ⟨by (with_reducible repeat (first | refine blk_drewN ?_ _ | refine blk_drew ?_ | refine blk_alloc ?_ _)); exact BK101.out⟩, ⟨by repeat (first | (with_reducible first | exact HB.out | apply below_alloc | apply pw_below_drewN | apply below_drew1 | refine below_set ?_ GE101.out) | exact HB.out)⟩⟩
  case rest =>
    clear HC2
    try clear p2
    try clear c4
    try clear c5
    try clear c6
    try clear hcz4_0
    try clear hcz4_1
    try clear hcz4_2
    try clear hcz4_3
    try clear hcz4_4
    try clear hcz4_5
    try clear hcz4_6
    try clear hcz4_7
    try clear hfz4_0
    try clear hfz4_1
    try clear hfz4_2
    try clear hfz4_3
    try clear hfz4_4
    try clear hfz4_5
    try clear hfz4_6
    try clear hfz4_7
    obtain ⟨kq, x3_1, HA, HJ1, HO_3, BK101, HB⟩ := hcut
    cases kq with
    | zero => exact absurd HA.out (by simp [impl_Options_list.j0])
    | succ kj1 =>
      have H := HA.out
      clear HA
      simp only [impl_Options_list.j0] at H
      have HC8 := Aside0.mk H
      clear H
      have hcz9_0 : wc.cell? ⟨gb101, 0, none⟩ = some (.bool a0_0) := (blk_cell BK101.out 0).trans rfl
      have hcz9_1 : wc.cell? ⟨gb101, 1, none⟩ = some (.bool a0_1) := (blk_cell BK101.out 1).trans rfl
      have hcz9_2 : wc.cell? ⟨gb101, 2, none⟩ = some (.bool a0_2) := (blk_cell BK101.out 2).trans rfl
      have hcz9_3 : wc.cell? ⟨gb101, 3, none⟩ = some (.bool a0_3) := (blk_cell BK101.out 3).trans rfl
      have hcz9_4 : wc.cell? ⟨gb101, 4, none⟩ = some (.bool a0_4) := (blk_cell BK101.out 4).trans rfl
      have hcz9_5 : wc.cell? ⟨gb101, 5, none⟩ = some (.bool a0_5) := (blk_cell BK101.out 5).trans rfl
      have hcz9_6 : wc.cell? ⟨gb101, 6, none⟩ = some (.bool a0_6) := (blk_cell BK101.out 6).trans rfl
      have hcz9_7 : wc.cell? ⟨gb101, 7, none⟩ = some (.int .i64 a0_7) := (blk_cell BK101.out 7).trans rfl
      have hfz9_0 := blk_frozen BK101.out 0
      have hfz9_1 := blk_frozen BK101.out 1
      have hfz9_2 := blk_frozen BK101.out 2
      have hfz9_3 := blk_frozen BK101.out 3
      have hfz9_4 := blk_frozen BK101.out 4
      have hfz9_5 := blk_frozen BK101.out 5
      have hfz9_6 := blk_frozen BK101.out 6
      have hfz9_7 := blk_frozen BK101.out 7
      go_upto_if 10 with (fail)
      go_cut [3] (fun v3 wc => ∃ (kq : Nat) (x3_7 : List Int), Aside0 (impl_Options_list.j1 kq x3_7 a0_0 a0_1 a0_2 a0_3 a0_4 a0_5 a0_6 a0_7 = some r) ∧ Aside0 (kq ≤ kj1) ∧ Aside0 (Kd.R (Kd.int .i64) 108 wc w.heap.size (fun _ => True) v3 x3_7) ∧ Aside0 (wc.heap[gb101]? = some (.cells #[.bool a0_0, .bool a0_1, .bool a0_2, .bool a0_3, .bool a0_4, .bool a0_5, .bool a0_6, .int .i64 a0_7] 67 (0, 0))) ∧ Aside0 (Below w.heap.size w wc))
      case first =>
        have H := HC8.out
        clear HC8
        by_cases c10 : a0_1 = true
        · subst c10
          have H1 : (if x3_1.length < 17592186044416 then (impl_Options_list.j1 kj1 (x3_1 ++ [1]) a0_0 true a0_2 a0_3 a0_4 a0_5 a0_6 a0_7) else (none)) = some r := by rw [if_pos rfl] at H; exact H
          clear H
          have H := H1
          clear H1
          by_cases c11 : x3_1.length < 17592186044416
          · rw [if_pos c11] at H
            have LMc11 := Aside0.mk c11
            clear c11
            obtain ⟨y105, hy105⟩ : ∃ y_ : List Int, y_ = (x3_1 ++ [1]) := ⟨_, rfl⟩
            replace H : (impl_Options_list.j1 kj1 y105 a0_0 true a0_2 a0_3 a0_4 a0_5 a0_6 a0_7) = some r := by first | (rw [hy105]; with_reducible exact H) | (have H2_ := (Option.bind_some _ _).symm.trans H; rw [hy105]; with_reducible exact H2_) | (have H2_ := (Option.bind_some _ _).symm.trans H; with_reducible exact H2_) | with_reducible exact H | (rw [hy105]; exact H) | exact H
            have Ny105 := Aside0.mk hy105
            clear hy105
            have H' := Aside0.mk H
            clear H
            go_wp2_with (first | ((with_reducible refine gate_builtin (b := .append) (xs := #[.tmp 11, .tmp 12]) rfl ?_); at_builtin; refine Kd.R_append (Kd.int .i64) (w0 := w) w.heap.size rfl (.tmp 11) (.tmp 12) 91 108 (.int .i64 0) 8 rfl Tryd.underlying91 info108 rfl (by decide) (by omega) u3 x3_1 1 [.int .i64 1] (fun _ => True) (fun _ => False) rfl rfl ?aP (fun _ hk => hk.elim) ?aF ?aO ?aB ?aS ?aL ?_; (case aP => exact rfl); (case aB => exact (by repeat (first | (with_reducible first | exact HB.out | apply below_alloc | apply pw_below_drewN | apply below_drew1 | refine below_set ?_ GE101.out) | exact HB.out))); (case aF => exact (fun _ _ => trivial)); (case aO => exact (by (with_reducible repeat (first | apply Kd.R_alloc | apply Kd.R_drewN | apply Kd.R_drew)); exact HO_3.out)); (case aS => exact (below_size (by repeat (first | (with_reducible first | exact HB.out | apply below_alloc | apply pw_below_drewN | apply below_drew1 | refine below_set ?_ GE101.out) | exact HB.out)))); (case aL => have := LMc11.out; omega); intro v106 w12 ho hb hg hat; rw [← Ny105.out] at ho; have n0_ := Aside0.mk (blk_grown (g := gb101) (o := .cells #[.bool a0_0, .bool true, .bool a0_2, .bool a0_3, .bool a0_4, .bool a0_5, .bool a0_6, .int .i64 a0_7] 67 (0, 0)) (by (with_reducible repeat (first | refine blk_drewN ?_ _ | refine blk_drew ?_ | refine blk_alloc ?_ _)); exact BK101.out) hg (Kd.R_ne HO_3.out BK101.out (by decide))); have n1_ := Aside0.mk (hb); have n2_ := Aside0.mk (ho); clear BK101; clear HB; clear HO_3; have BK101 := n0_; have HB := n1_; have HO107 := n2_; clear n0_ n1_ n2_; clear ho hb hg hat))
            go_meet
            case rel => exact ⟨_, (y105), H', ⟨by have := HJ1.out; first | omega | exact Nat.le_refl _⟩, ⟨by (with_reducible repeat (first | apply Kd.R_alloc | apply Kd.R_drewN | apply Kd.R_drew)); exact HO107.out⟩, ⟨by (with_reducible repeat (first | refine blk_drewN ?_ _ | refine blk_drew ?_ | refine blk_alloc ?_ _)); exact BK101.out⟩, ⟨by repeat (first | (with_reducible first | exact HB.out | apply below_alloc | apply pw_below_drewN | apply below_drew1 | refine below_set ?_ GE101.out) | exact HB.out)⟩⟩
          · rw [if_neg c11] at H
            exact absurd H (by simp)
        · replace c10 := Bool.eq_false_iff.mpr c10
          subst c10
          have H1 : (impl_Options_list.j1 kj1 x3_1 a0_0 false a0_2 a0_3 a0_4 a0_5 a0_6 a0_7) = some r := by rw [if_neg (show ¬ (false = true) by decide)] at H; exact H
          clear H
          have H := H1
          clear H1
          have H' := Aside0.mk H
          clear H
          go_wp2
          go_meet
          case rel => exact ⟨_, (x3_1), H', ⟨by have := HJ1.out; first | omega | exact Nat.le_refl _⟩, ⟨by (with_reducible repeat (first | apply Kd.R_alloc | apply Kd.R_drewN | apply Kd.R_drew)); exact HO_3.out⟩, ⟨by (with_reducible repeat (first | refine blk_drewN ?_ _ | refine blk_drew ?_ | refine blk_alloc ?_ _)); exact BK101.out⟩, ⟨by repeat (first | (with_reducible first | exact HB.out | apply below_alloc | apply pw_below_drewN | apply below_drew1 | refine below_set ?_ GE101.out) | exact HB.out)⟩⟩
      case rest =>
        clear HC8
        try clear c1
        try clear p2
        try clear c4
        try clear c5
        try clear c6
        try clear c10
        try clear c11
        try clear hcz4_0
        try clear hcz4_1
        try clear hcz4_2
        try clear hcz4_3
        try clear hcz4_4
        try clear hcz4_5
        try clear hcz4_6
        try clear hcz4_7
        try clear hcz9_0
        try clear hcz9_1
        try clear hcz9_2
        try clear hcz9_3
        try clear hcz9_4
        try clear hcz9_5
        try clear hcz9_6
        try clear hcz9_7
        try clear hfz4_0
        try clear hfz4_1
        try clear hfz4_2
        try clear hfz4_3
        try clear hfz4_4
        try clear hfz4_5
        try clear hfz4_6
        try clear hfz4_7
        try clear hfz9_0
        try clear hfz9_1
        try clear hfz9_2
        try clear hfz9_3
        try clear hfz9_4
        try clear hfz9_5
        try clear hfz9_6
        try clear hfz9_7
        try clear p2
        obtain ⟨kq, x3_7, HA, HJ7, HO_3, BK101, HB⟩ := hcut
        cases kq with
        | zero => exact absurd HA.out (by simp [impl_Options_list.j1])
        | succ kj7 =>
          have H := HA.out
          clear HA
          simp only [impl_Options_list.j1] at H
          have HC13 := Aside0.mk H
          clear H
          have hcz14_0 : wc.cell? ⟨gb101, 0, none⟩ = some (.bool a0_0) := (blk_cell BK101.out 0).trans rfl
          have hcz14_1 : wc.cell? ⟨gb101, 1, none⟩ = some (.bool a0_1) := (blk_cell BK101.out 1).trans rfl
          have hcz14_2 : wc.cell? ⟨gb101, 2, none⟩ = some (.bool a0_2) := (blk_cell BK101.out 2).trans rfl
          have hcz14_3 : wc.cell? ⟨gb101, 3, none⟩ = some (.bool a0_3) := (blk_cell BK101.out 3).trans rfl
          have hcz14_4 : wc.cell? ⟨gb101, 4, none⟩ = some (.bool a0_4) := (blk_cell BK101.out 4).trans rfl
          have hcz14_5 : wc.cell? ⟨gb101, 5, none⟩ = some (.bool a0_5) := (blk_cell BK101.out 5).trans rfl
          have hcz14_6 : wc.cell? ⟨gb101, 6, none⟩ = some (.bool a0_6) := (blk_cell BK101.out 6).trans rfl
          have hcz14_7 : wc.cell? ⟨gb101, 7, none⟩ = some (.int .i64 a0_7) := (blk_cell BK101.out 7).trans rfl
          have hfz14_0 := blk_frozen BK101.out 0
          have hfz14_1 := blk_frozen BK101.out 1
          have hfz14_2 := blk_frozen BK101.out 2
          have hfz14_3 := blk_frozen BK101.out 3
          have hfz14_4 := blk_frozen BK101.out 4
          have hfz14_5 := blk_frozen BK101.out 5
          have hfz14_6 := blk_frozen BK101.out 6
          have hfz14_7 := blk_frozen BK101.out 7
          go_upto_if 15 with (fail)
          go_cut [3] (fun v3 wc => ∃ (kq : Nat) (x3_12 : List Int), Aside0 (impl_Options_list.j2 kq x3_12 a0_0 a0_1 a0_2 a0_3 a0_4 a0_5 a0_6 a0_7 = some r) ∧ Aside0 (kq ≤ kj7) ∧ Aside0 (Kd.R (Kd.int .i64) 108 wc w.heap.size (fun _ => True) v3 x3_12) ∧ Aside0 (wc.heap[gb101]? = some (.cells #[.bool a0_0, .bool a0_1, .bool a0_2, .bool a0_3, .bool a0_4, .bool a0_5, .bool a0_6, .int .i64 a0_7] 67 (0, 0))) ∧ Aside0 (Below w.heap.size w wc))
          case first =>
            have H := HC13.out
            clear HC13
            by_cases c15 : a0_2 = true
            · subst c15
              have H1 : (if x3_7.length < 17592186044416 then (impl_Options_list.j2 kj7 (x3_7 ++ [2]) a0_0 a0_1 true a0_3 a0_4 a0_5 a0_6 a0_7) else (none)) = some r := by rw [if_pos rfl] at H; exact H
              clear H
              have H := H1
              clear H1
              by_cases c16 : x3_7.length < 17592186044416
              · rw [if_pos c16] at H
                have LMc16 := Aside0.mk c16
                clear c16
                obtain ⟨y108, hy108⟩ : ∃ y_ : List Int, y_ = (x3_7 ++ [2]) := ⟨_, rfl⟩
                replace H : (impl_Options_list.j2 kj7 y108 a0_0 a0_1 true a0_3 a0_4 a0_5 a0_6 a0_7) = some r := by first | (rw [hy108]; with_reducible exact H) | (have H2_ := (Option.bind_some _ _).symm.trans H; rw [hy108]; with_reducible exact H2_) | (have H2_ := (Option.bind_some _ _).symm.trans H; with_reducible exact H2_) | with_reducible exact H | (rw [hy108]; exact H) | exact H
                have Ny108 := Aside0.mk hy108
                clear hy108
                have H' := Aside0.mk H
                clear H
                go_wp2_with (first | ((with_reducible refine gate_builtin (b := .append) (xs := #[.tmp 16, .tmp 17]) rfl ?_); at_builtin; refine Kd.R_append (Kd.int .i64) (w0 := w) w.heap.size rfl (.tmp 16) (.tmp 17) 91 108 (.int .i64 0) 8 rfl Tryd.underlying91 info108 rfl (by decide) (by omega) u3 x3_7 2 [.int .i64 2] (fun _ => True) (fun _ => False) rfl rfl ?aP (fun _ hk => hk.elim) ?aF ?aO ?aB ?aS ?aL ?_; (case aP => exact rfl); (case aB => exact (by repeat (first | (with_reducible first | exact HB.out | apply below_alloc | apply pw_below_drewN | apply below_drew1 | refine below_set ?_ GE101.out) | exact HB.out))); (case aF => exact (fun _ _ => trivial)); (case aO => exact (by (with_reducible repeat (first | apply Kd.R_alloc | apply Kd.R_drewN | apply Kd.R_drew)); exact HO_3.out)); (case aS => exact (below_size (by repeat (first | (with_reducible first | exact HB.out | apply below_alloc | apply pw_below_drewN | apply below_drew1 | refine below_set ?_ GE101.out) | exact HB.out)))); (case aL => have := LMc16.out; omega); intro v109 w17 ho hb hg hat; rw [← Ny108.out] at ho; have n0_ := Aside0.mk (blk_grown (g := gb101) (o := .cells #[.bool a0_0, .bool a0_1, .bool true, .bool a0_3, .bool a0_4, .bool a0_5, .bool a0_6, .int .i64 a0_7] 67 (0, 0)) (by (with_reducible repeat (first | refine blk_drewN ?_ _ | refine blk_drew ?_ | refine blk_alloc ?_ _)); exact BK101.out) hg (Kd.R_ne HO_3.out BK101.out (by decide))); have n1_ := Aside0.mk (hb); have n2_ := Aside0.mk (ho); clear BK101; clear HB; clear HO_3; have BK101 := n0_; have HB := n1_; have HO110 := n2_; clear n0_ n1_ n2_; clear ho hb hg hat))
                go_meet
                case rel => exact ⟨_, (y108), H', ⟨by have := HJ1.out; have := HJ7.out; first | omega | exact Nat.le_refl _⟩, ⟨by (with_reducible repeat (first | apply Kd.R_alloc | apply Kd.R_drewN | apply Kd.R_drew)); exact HO110.out⟩, ⟨by (with_reducible repeat (first | refine blk_drewN ?_ _ | refine blk_drew ?_ | refine blk_alloc ?_ _)); exact BK101.out⟩, ⟨by repeat (first | (with_reducible first | exact HB.out | apply below_alloc | apply pw_below_drewN | apply below_drew1 | refine below_set ?_ GE101.out) | exact HB.out)⟩⟩
              · rw [if_neg c16] at H
                exact absurd H (by simp)
            · replace c15 := Bool.eq_false_iff.mpr c15
              subst c15
              have H1 : (impl_Options_list.j2 kj7 x3_7 a0_0 a0_1 false a0_3 a0_4 a0_5 a0_6 a0_7) = some r := by rw [if_neg (show ¬ (false = true) by decide)] at H; exact H
              clear H
              have H := H1
              clear H1
              have H' := Aside0.mk H
              clear H
              go_wp2
              go_meet
              case rel => exact ⟨_, (x3_7), H', ⟨by have := HJ1.out; have := HJ7.out; first | omega | exact Nat.le_refl _⟩, ⟨by (with_reducible repeat (first | apply Kd.R_alloc | apply Kd.R_drewN | apply Kd.R_drew)); exact HO_3.out⟩, ⟨by (with_reducible repeat (first | refine blk_drewN ?_ _ | refine blk_drew ?_ | refine blk_alloc ?_ _)); exact BK101.out⟩, ⟨by repeat (first | (with_reducible first | exact HB.out | apply below_alloc | apply pw_below_drewN | apply below_drew1 | refine below_set ?_ GE101.out) | exact HB.out)⟩⟩
          case rest =>
            clear HC13
            try clear c1
            try clear p2
            try clear c4
            try clear c5
            try clear c6
            try clear c10
            try clear c11
            try clear c15
            try clear c16
            try clear hcz14_0
            try clear hcz14_1
            try clear hcz14_2
            try clear hcz14_3
            try clear hcz14_4
            try clear hcz14_5
            try clear hcz14_6
            try clear hcz14_7
            try clear hcz4_0
            try clear hcz4_1
            try clear hcz4_2
            try clear hcz4_3
            try clear hcz4_4
            try clear hcz4_5
            try clear hcz4_6
            try clear hcz4_7
            try clear hcz9_0
            try clear hcz9_1
            try clear hcz9_2
            try clear hcz9_3
            try clear hcz9_4
            try clear hcz9_5
            try clear hcz9_6
            try clear hcz9_7
            try clear hfz14_0
            try clear hfz14_1
            try clear hfz14_2
            try clear hfz14_3
            try clear hfz14_4
            try clear hfz14_5
            try clear hfz14_6
            try clear hfz14_7
            try clear hfz4_0
            try clear hfz4_1
            try clear hfz4_2
            try clear hfz4_3
            try clear hfz4_4
            try clear hfz4_5
            try clear hfz4_6
            try clear hfz4_7
            try clear hfz9_0
            try clear hfz9_1
            try clear hfz9_2
            try clear hfz9_3
            try clear hfz9_4
            try clear hfz9_5
            try clear hfz9_6
            try clear hfz9_7
            try clear p2
            obtain ⟨kq, x3_12, HA, HJ12, HO_3, BK101, HB⟩ := hcut
            cases kq with
            | zero => exact absurd HA.out (by simp [impl_Options_list.j2])
            | succ kj12 =>
              have H := HA.out
              clear HA
              simp only [impl_Options_list.j2] at H
              have HC18 := Aside0.mk H
              clear H
              have hcz19_0 : wc.cell? ⟨gb101, 0, none⟩ = some (.bool a0_0) := (blk_cell BK101.out 0).trans rfl
              have hcz19_1 : wc.cell? ⟨gb101, 1, none⟩ = some (.bool a0_1) := (blk_cell BK101.out 1).trans rfl
              have hcz19_2 : wc.cell? ⟨gb101, 2, none⟩ = some (.bool a0_2) := (blk_cell BK101.out 2).trans rfl
              have hcz19_3 : wc.cell? ⟨gb101, 3, none⟩ = some (.bool a0_3) := (blk_cell BK101.out 3).trans rfl
              have hcz19_4 : wc.cell? ⟨gb101, 4, none⟩ = some (.bool a0_4) := (blk_cell BK101.out 4).trans rfl
              have hcz19_5 : wc.cell? ⟨gb101, 5, none⟩ = some (.bool a0_5) := (blk_cell BK101.out 5).trans rfl
              have hcz19_6 : wc.cell? ⟨gb101, 6, none⟩ = some (.bool a0_6) := (blk_cell BK101.out 6).trans rfl
              have hcz19_7 : wc.cell? ⟨gb101, 7, none⟩ = some (.int .i64 a0_7) := (blk_cell BK101.out 7).trans rfl
              have hfz19_0 := blk_frozen BK101.out 0
              have hfz19_1 := blk_frozen BK101.out 1
              have hfz19_2 := blk_frozen BK101.out 2
              have hfz19_3 := blk_frozen BK101.out 3
              have hfz19_4 := blk_frozen BK101.out 4
              have hfz19_5 := blk_frozen BK101.out 5
              have hfz19_6 := blk_frozen BK101.out 6
              have hfz19_7 := blk_frozen BK101.out 7
              go_upto_if 20 with (fail)
              go_cut [3] (fun v3 wc => ∃ (kq : Nat) (x3_17 : List Int), Aside0 (impl_Options_list.j3 kq x3_17 a0_0 a0_1 a0_2 a0_3 a0_4 a0_5 a0_6 a0_7 = some r) ∧ Aside0 (kq ≤ kj12) ∧ Aside0 (Kd.R (Kd.int .i64) 108 wc w.heap.size (fun _ => True) v3 x3_17) ∧ Aside0 (wc.heap[gb101]? = some (.cells #[.bool a0_0, .bool a0_1, .bool a0_2, .bool a0_3, .bool a0_4, .bool a0_5, .bool a0_6, .int .i64 a0_7] 67 (0, 0))) ∧ Aside0 (Below w.heap.size w wc))
              case first =>
                have H := HC18.out
                clear HC18
                by_cases c20 : a0_3 = true
                · subst c20
                  have H1 : (if x3_12.length < 17592186044416 then (impl_Options_list.j3 kj12 (x3_12 ++ [3]) a0_0 a0_1 a0_2 true a0_4 a0_5 a0_6 a0_7) else (none)) = some r := by rw [if_pos rfl] at H; exact H
                  clear H
                  have H := H1
                  clear H1
                  by_cases c21 : x3_12.length < 17592186044416
                  · rw [if_pos c21] at H
                    have LMc21 := Aside0.mk c21
                    clear c21
                    obtain ⟨y111, hy111⟩ : ∃ y_ : List Int, y_ = (x3_12 ++ [3]) := ⟨_, rfl⟩
                    replace H : (impl_Options_list.j3 kj12 y111 a0_0 a0_1 a0_2 true a0_4 a0_5 a0_6 a0_7) = some r := by first | (rw [hy111]; with_reducible exact H) | (have H2_ := (Option.bind_some _ _).symm.trans H; rw [hy111]; with_reducible exact H2_) | (have H2_ := (Option.bind_some _ _).symm.trans H; with_reducible exact H2_) | with_reducible exact H | (rw [hy111]; exact H) | exact H
                    have Ny111 := Aside0.mk hy111
                    clear hy111
                    have H' := Aside0.mk H
                    clear H
                    go_wp2_with (first | ((with_reducible refine gate_builtin (b := .append) (xs := #[.tmp 21, .tmp 22]) rfl ?_); at_builtin; refine Kd.R_append (Kd.int .i64) (w0 := w) w.heap.size rfl (.tmp 21) (.tmp 22) 91 108 (.int .i64 0) 8 rfl Tryd.underlying91 info108 rfl (by decide) (by omega) u3 x3_12 3 [.int .i64 3] (fun _ => True) (fun _ => False) rfl rfl ?aP (fun _ hk => hk.elim) ?aF ?aO ?aB ?aS ?aL ?_; (case aP => exact rfl); (case aB => exact (by repeat (first | (with_reducible first | exact HB.out | apply below_alloc | apply pw_below_drewN | apply below_drew1 | refine below_set ?_ GE101.out) | exact HB.out))); (case aF => exact (fun _ _ => trivial)); (case aO => exact (by (with_reducible repeat (first | apply Kd.R_alloc | apply Kd.R_drewN | apply Kd.R_drew)); exact HO_3.out)); (case aS => exact (below_size (by repeat (first | (with_reducible first | exact HB.out | apply below_alloc | apply pw_below_drewN | apply below_drew1 | refine below_set ?_ GE101.out) | exact HB.out)))); (case aL => have := LMc21.out; omega); intro v112 w22 ho hb hg hat; rw [← Ny111.out] at ho; have n0_ := Aside0.mk (blk_grown (g := gb101) (o := .cells #[.bool a0_0, .bool a0_1, .bool a0_2, .bool true, .bool a0_4, .bool a0_5, .bool a0_6, .int .i64 a0_7] 67 (0, 0)) (by (with_reducible repeat (first | refine blk_drewN ?_ _ | refine blk_drew ?_ | refine blk_alloc ?_ _)); exact BK101.out) hg (Kd.R_ne HO_3.out BK101.out (by decide))); have n1_ := Aside0.mk (hb); have n2_ := Aside0.mk (ho); clear BK101; clear HB; clear HO_3; have BK101 := n0_; have HB := n1_; have HO113 := n2_; clear n0_ n1_ n2_; clear ho hb hg hat))
                    go_meet
                    case rel => exact ⟨_, (y111), H', ⟨by have := HJ1.out; have := HJ7.out; have := HJ12.out; first | omega | exact Nat.le_refl _⟩, ⟨by (with_reducible repeat (first | apply Kd.R_alloc | apply Kd.R_drewN | apply Kd.R_drew)); exact HO113.out⟩, ⟨by (with_reducible repeat (first | refine blk_drewN ?_ _ | refine blk_drew ?_ | refine blk_alloc ?_ _)); exact BK101.out⟩, ⟨by repeat (first | (with_reducible first | exact HB.out | apply below_alloc | apply pw_below_drewN | apply below_drew1 | refine below_set ?_ GE101.out) | exact HB.out)⟩⟩
                  · rw [if_neg c21] at H
                    exact absurd H (by simp)
                · replace c20 := Bool.eq_false_iff.mpr c20
                  subst c20
                  have H1 : (impl_Options_list.j3 kj12 x3_12 a0_0 a0_1 a0_2 false a0_4 a0_5 a0_6 a0_7) = some r := by rw [if_neg (show ¬ (false = true) by decide)] at H; exact H
                  clear H
                  have H := H1
                  clear H1
                  have H' := Aside0.mk H
                  clear H
                  go_wp2
                  go_meet
                  case rel => exact ⟨_, (x3_12), H', ⟨by have := HJ1.out; have := HJ7.out; have := HJ12.out; first | omega | exact Nat.le_refl _⟩, ⟨by (with_reducible repeat (first | apply Kd.R_alloc | apply Kd.R_drewN | apply Kd.R_drew)); exact HO_3.out⟩, ⟨by (with_reducible repeat (first | refine blk_drewN ?_ _ | refine blk_drew ?_ | refine blk_alloc ?_ _)); exact BK101.out⟩, ⟨by repeat (first | (with_reducible first | exact HB.out | apply below_alloc | apply pw_below_drewN | apply below_drew1 | refine below_set ?_ GE101.out) | exact HB.out)⟩⟩
              case rest =>
                clear HC18
                try clear c1
                try clear c2
                try clear p2
                try clear c4
                try clear c5
                try clear c6
                try clear c10
                try clear c11
                try clear c15
                try clear c16
                try clear c20
                try clear c21
                try clear hcz14_0
                try clear hcz14_1
                try clear hcz14_2
                try clear hcz14_3
                try clear hcz14_4
                try clear hcz14_5
                try clear hcz14_6
                try clear hcz14_7
                try clear hcz19_0
                try clear hcz19_1
                try clear hcz19_2
                try clear hcz19_3
                try clear hcz19_4
                try clear hcz19_5
                try clear hcz19_6
                try clear hcz19_7
                try clear hcz4_0
                try clear hcz4_1
                try clear hcz4_2
                try clear hcz4_3
                try clear hcz4_4
                try clear hcz4_5
                try clear hcz4_6
                try clear hcz4_7
                try clear hcz9_0
                try clear hcz9_1
                try clear hcz9_2
                try clear hcz9_3
                try clear hcz9_4
                try clear hcz9_5
                try clear hcz9_6
                try clear hcz9_7
                try clear hfz14_0
                try clear hfz14_1
                try clear hfz14_2
                try clear hfz14_3
                try clear hfz14_4
                try clear hfz14_5
                try clear hfz14_6
                try clear hfz14_7
                try clear hfz19_0
                try clear hfz19_1
                try clear hfz19_2
                try clear hfz19_3
                try clear hfz19_4
                try clear hfz19_5
                try clear hfz19_6
                try clear hfz19_7
                try clear hfz4_0
                try clear hfz4_1
                try clear hfz4_2
                try clear hfz4_3
                try clear hfz4_4
                try clear hfz4_5
                try clear hfz4_6
                try clear hfz4_7
                try clear hfz9_0
                try clear hfz9_1
                try clear hfz9_2
                try clear hfz9_3
                try clear hfz9_4
                try clear hfz9_5
                try clear hfz9_6
                try clear hfz9_7
                try clear p2
                obtain ⟨kq, x3_17, HA, HJ17, HO_3, BK101, HB⟩ := hcut
                cases kq with
                | zero => exact absurd HA.out (by simp [impl_Options_list.j3])
                | succ kj17 =>
                  have H := HA.out
                  clear HA
                  simp only [impl_Options_list.j3] at H
                  have HC23 := Aside0.mk H
                  clear H
                  have hcz24_0 : wc.cell? ⟨gb101, 0, none⟩ = some (.bool a0_0) := (blk_cell BK101.out 0).trans rfl
                  have hcz24_1 : wc.cell? ⟨gb101, 1, none⟩ = some (.bool a0_1) := (blk_cell BK101.out 1).trans rfl
                  have hcz24_2 : wc.cell? ⟨gb101, 2, none⟩ = some (.bool a0_2) := (blk_cell BK101.out 2).trans rfl
                  have hcz24_3 : wc.cell? ⟨gb101, 3, none⟩ = some (.bool a0_3) := (blk_cell BK101.out 3).trans rfl
                  have hcz24_4 : wc.cell? ⟨gb101, 4, none⟩ = some (.bool a0_4) := (blk_cell BK101.out 4).trans rfl
                  have hcz24_5 : wc.cell? ⟨gb101, 5, none⟩ = some (.bool a0_5) := (blk_cell BK101.out 5).trans rfl
                  have hcz24_6 : wc.cell? ⟨gb101, 6, none⟩ = some (.bool a0_6) := (blk_cell BK101.out 6).trans rfl
                  have hcz24_7 : wc.cell? ⟨gb101, 7, none⟩ = some (.int .i64 a0_7) := (blk_cell BK101.out 7).trans rfl
                  have hfz24_0 := blk_frozen BK101.out 0
                  have hfz24_1 := blk_frozen BK101.out 1
                  have hfz24_2 := blk_frozen BK101.out 2
                  have hfz24_3 := blk_frozen BK101.out 3
                  have hfz24_4 := blk_frozen BK101.out 4
                  have hfz24_5 := blk_frozen BK101.out 5
                  have hfz24_6 := blk_frozen BK101.out 6
                  have hfz24_7 := blk_frozen BK101.out 7
                  go_upto_if 25 with (fail)
                  go_cut [3] (fun v3 wc => ∃ (kq : Nat) (x3_22 : List Int), Aside0 (impl_Options_list.j4 kq x3_22 a0_0 a0_1 a0_2 a0_3 a0_4 a0_5 a0_6 a0_7 = some r) ∧ Aside0 (kq ≤ kj17) ∧ Aside0 (Kd.R (Kd.int .i64) 108 wc w.heap.size (fun _ => True) v3 x3_22) ∧ Aside0 (wc.heap[gb101]? = some (.cells #[.bool a0_0, .bool a0_1, .bool a0_2, .bool a0_3, .bool a0_4, .bool a0_5, .bool a0_6, .int .i64 a0_7] 67 (0, 0))) ∧ Aside0 (Below w.heap.size w wc))
                  case first =>
                    have H := HC23.out
                    clear HC23
                    by_cases c25 : a0_4 = true
                    · subst c25
                      have H1 : (if x3_17.length < 17592186044416 then (impl_Options_list.j4 kj17 (x3_17 ++ [4]) a0_0 a0_1 a0_2 a0_3 true a0_5 a0_6 a0_7) else (none)) = some r := by rw [if_pos rfl] at H; exact H
                      clear H
                      have H := H1
                      clear H1
                      by_cases c26 : x3_17.length < 17592186044416
                      · rw [if_pos c26] at H
                        have LMc26 := Aside0.mk c26
                        clear c26
                        obtain ⟨y114, hy114⟩ : ∃ y_ : List Int, y_ = (x3_17 ++ [4]) := ⟨_, rfl⟩
                        replace H : (impl_Options_list.j4 kj17 y114 a0_0 a0_1 a0_2 a0_3 true a0_5 a0_6 a0_7) = some r := by first | (rw [hy114]; with_reducible exact H) | (have H2_ := (Option.bind_some _ _).symm.trans H; rw [hy114]; with_reducible exact H2_) | (have H2_ := (Option.bind_some _ _).symm.trans H; with_reducible exact H2_) | with_reducible exact H | (rw [hy114]; exact H) | exact H
                        have Ny114 := Aside0.mk hy114
                        clear hy114
                        have H' := Aside0.mk H
                        clear H
                        go_wp2_with (first | ((with_reducible refine gate_builtin (b := .append) (xs := #[.tmp 26, .tmp 27]) rfl ?_); at_builtin; refine Kd.R_append (Kd.int .i64) (w0 := w) w.heap.size rfl (.tmp 26) (.tmp 27) 91 108 (.int .i64 0) 8 rfl Tryd.underlying91 info108 rfl (by decide) (by omega) u3 x3_17 4 [.int .i64 4] (fun _ => True) (fun _ => False) rfl rfl ?aP (fun _ hk => hk.elim) ?aF ?aO ?aB ?aS ?aL ?_; (case aP => exact rfl); (case aB => exact (by repeat (first | (with_reducible first | exact HB.out | apply below_alloc | apply pw_below_drewN | apply below_drew1 | refine below_set ?_ GE101.out) | exact HB.out))); (case aF => exact (fun _ _ => trivial)); (case aO => exact (by (with_reducible repeat (first | apply Kd.R_alloc | apply Kd.R_drewN | apply Kd.R_drew)); exact HO_3.out)); (case aS => exact (below_size (by repeat (first | (with_reducible first | exact HB.out | apply below_alloc | apply pw_below_drewN | apply below_drew1 | refine below_set ?_ GE101.out) | exact HB.out)))); (case aL => have := LMc26.out; omega); intro v115 w27 ho hb hg hat; rw [← Ny114.out] at ho; have n0_ := Aside0.mk (blk_grown (g := gb101) (o := .cells #[.bool a0_0, .bool a0_1, .bool a0_2, .bool a0_3, .bool true, .bool a0_5, .bool a0_6, .int .i64 a0_7] 67 (0, 0)) (by (with_reducible repeat (first | refine blk_drewN ?_ _ | refine blk_drew ?_ | refine blk_alloc ?_ _)); exact BK101.out) hg (Kd.R_ne HO_3.out BK101.out (by decide))); have n1_ := Aside0.mk (hb); have n2_ := Aside0.mk (ho); clear BK101; clear HB; clear HO_3; have BK101 := n0_; have HB := n1_; have HO116 := n2_; clear n0_ n1_ n2_; clear ho hb hg hat))
                        go_meet
                        case rel => exact ⟨_, (y114), H', ⟨by have := HJ1.out; have := HJ7.out; have := HJ12.out; have := HJ17.out; first | omega | exact Nat.le_refl _⟩, ⟨by (with_reducible repeat (first | apply Kd.R_alloc | apply Kd.R_drewN | apply Kd.R_drew)); exact HO116.out⟩, ⟨by (with_reducible repeat (first | refine blk_drewN ?_ _ | refine blk_drew ?_ | refine blk_alloc ?_ _)); exact BK101.out⟩, ⟨by repeat (first | (with_reducible first | exact HB.out | apply below_alloc | apply pw_below_drewN | apply below_drew1 | refine below_set ?_ GE101.out) | exact HB.out)⟩⟩
                      · rw [if_neg c26] at H
                        exact absurd H (by simp)
                    · replace c25 := Bool.eq_false_iff.mpr c25
                      subst c25
                      have H1 : (impl_Options_list.j4 kj17 x3_17 a0_0 a0_1 a0_2 a0_3 false a0_5 a0_6 a0_7) = some r := by rw [if_neg (show ¬ (false = true) by decide)] at H; exact H
                      clear H
                      have H := H1
                      clear H1
                      have H' := Aside0.mk H
                      clear H
                      go_wp2
                      go_meet
                      case rel => exact ⟨_, (x3_17), H', ⟨by have := HJ1.out; have := HJ7.out; have := HJ12.out; have := HJ17.out; first | omega | exact Nat.le_refl _⟩, ⟨by (with_reducible repeat (first | apply Kd.R_alloc | apply Kd.R_drewN | apply Kd.R_drew)); exact HO_3.out⟩, ⟨by (with_reducible repeat (first | refine blk_drewN ?_ _ | refine blk_drew ?_ | refine blk_alloc ?_ _)); exact BK101.out⟩, ⟨by repeat (first | (with_reducible first | exact HB.out | apply below_alloc | apply pw_below_drewN | apply below_drew1 | refine below_set ?_ GE101.out) | exact HB.out)⟩⟩
                  case rest =>
                    clear HC23
                    try clear c1
                    try clear c2
                    try clear p2
                    try clear c4
                    try clear c5
                    try clear c6
                    try clear c10
                    try clear c11
                    try clear c15
                    try clear c16
                    try clear c20
                    try clear c21
                    try clear c25
                    try clear c26
                    try clear hcz14_0
                    try clear hcz14_1
                    try clear hcz14_2
                    try clear hcz14_3
                    try clear hcz14_4
                    try clear hcz14_5
                    try clear hcz14_6
                    try clear hcz14_7
                    try clear hcz19_0
                    try clear hcz19_1
                    try clear hcz19_2
                    try clear hcz19_3
                    try clear hcz19_4
                    try clear hcz19_5
                    try clear hcz19_6
                    try clear hcz19_7
                    try clear hcz24_0
                    try clear hcz24_1
                    try clear hcz24_2
                    try clear hcz24_3
                    try clear hcz24_4
                    try clear hcz24_5
                    try clear hcz24_6
                    try clear hcz24_7
                    try clear hcz4_0
                    try clear hcz4_1
                    try clear hcz4_2
                    try clear hcz4_3
                    try clear hcz4_4
                    try clear hcz4_5
                    try clear hcz4_6
                    try clear hcz4_7
                    try clear hcz9_0
                    try clear hcz9_1
                    try clear hcz9_2
                    try clear hcz9_3
                    try clear hcz9_4
                    try clear hcz9_5
                    try clear hcz9_6
                    try clear hcz9_7
                    try clear hfz14_0
                    try clear hfz14_1
                    try clear hfz14_2
                    try clear hfz14_3
                    try clear hfz14_4
                    try clear hfz14_5
                    try clear hfz14_6
                    try clear hfz14_7
                    try clear hfz19_0
                    try clear hfz19_1
                    try clear hfz19_2
                    try clear hfz19_3
                    try clear hfz19_4
                    try clear hfz19_5
                    try clear hfz19_6
                    try clear hfz19_7
                    try clear hfz24_0
                    try clear hfz24_1
                    try clear hfz24_2
                    try clear hfz24_3
                    try clear hfz24_4
                    try clear hfz24_5
                    try clear hfz24_6
                    try clear hfz24_7
                    try clear hfz4_0
                    try clear hfz4_1
                    try clear hfz4_2
                    try clear hfz4_3
                    try clear hfz4_4
                    try clear hfz4_5
                    try clear hfz4_6
                    try clear hfz4_7
                    try clear hfz9_0
                    try clear hfz9_1
                    try clear hfz9_2
                    try clear hfz9_3
                    try clear hfz9_4
                    try clear hfz9_5
                    try clear hfz9_6
                    try clear hfz9_7
                    try clear p2
                    obtain ⟨kq, x3_22, HA, HJ22, HO_3, BK101, HB⟩ := hcut
                    cases kq with
                    | zero => exact absurd HA.out (by simp [impl_Options_list.j4])
                    | succ kj22 =>
                      have H := HA.out
                      clear HA
                      simp only [impl_Options_list.j4] at H
                      have HC28 := Aside0.mk H
                      clear H
                      have hcz29_0 : wc.cell? ⟨gb101, 0, none⟩ = some (.bool a0_0) := (blk_cell BK101.out 0).trans rfl
                      have hcz29_1 : wc.cell? ⟨gb101, 1, none⟩ = some (.bool a0_1) := (blk_cell BK101.out 1).trans rfl
                      have hcz29_2 : wc.cell? ⟨gb101, 2, none⟩ = some (.bool a0_2) := (blk_cell BK101.out 2).trans rfl
                      have hcz29_3 : wc.cell? ⟨gb101, 3, none⟩ = some (.bool a0_3) := (blk_cell BK101.out 3).trans rfl
                      have hcz29_4 : wc.cell? ⟨gb101, 4, none⟩ = some (.bool a0_4) := (blk_cell BK101.out 4).trans rfl
                      have hcz29_5 : wc.cell? ⟨gb101, 5, none⟩ = some (.bool a0_5) := (blk_cell BK101.out 5).trans rfl
                      have hcz29_6 : wc.cell? ⟨gb101, 6, none⟩ = some (.bool a0_6) := (blk_cell BK101.out 6).trans rfl
                      have hcz29_7 : wc.cell? ⟨gb101, 7, none⟩ = some (.int .i64 a0_7) := (blk_cell BK101.out 7).trans rfl
                      have hfz29_0 := blk_frozen BK101.out 0
                      have hfz29_1 := blk_frozen BK101.out 1
                      have hfz29_2 := blk_frozen BK101.out 2
                      have hfz29_3 := blk_frozen BK101.out 3
                      have hfz29_4 := blk_frozen BK101.out 4
                      have hfz29_5 := blk_frozen BK101.out 5
                      have hfz29_6 := blk_frozen BK101.out 6
                      have hfz29_7 := blk_frozen BK101.out 7
                      go_upto_if 30 with (fail)
                      go_cut [3] (fun v3 wc => ∃ (kq : Nat) (x3_27 : List Int), Aside0 (impl_Options_list.j5 kq x3_27 a0_0 a0_1 a0_2 a0_3 a0_4 a0_5 a0_6 a0_7 = some r) ∧ Aside0 (kq ≤ kj22) ∧ Aside0 (Kd.R (Kd.int .i64) 108 wc w.heap.size (fun _ => True) v3 x3_27) ∧ Aside0 (wc.heap[gb101]? = some (.cells #[.bool a0_0, .bool a0_1, .bool a0_2, .bool a0_3, .bool a0_4, .bool a0_5, .bool a0_6, .int .i64 a0_7] 67 (0, 0))) ∧ Aside0 (Below w.heap.size w wc))
                      case first =>
                        have H := HC28.out
                        clear HC28
                        by_cases c30 : a0_5 = true
                        · subst c30
                          have H1 : (if x3_22.length < 17592186044416 then (impl_Options_list.j5 kj22 (x3_22 ++ [5]) a0_0 a0_1 a0_2 a0_3 a0_4 true a0_6 a0_7) else (none)) = some r := by rw [if_pos rfl] at H; exact H
                          clear H
                          have H := H1
                          clear H1
                          by_cases c31 : x3_22.length < 17592186044416
                          · rw [if_pos c31] at H
                            have LMc31 := Aside0.mk c31
                            clear c31
                            obtain ⟨y117, hy117⟩ : ∃ y_ : List Int, y_ = (x3_22 ++ [5]) := ⟨_, rfl⟩
                            replace H : (impl_Options_list.j5 kj22 y117 a0_0 a0_1 a0_2 a0_3 a0_4 true a0_6 a0_7) = some r := by first | (rw [hy117]; with_reducible exact H) | (have H2_ := (Option.bind_some _ _).symm.trans H; rw [hy117]; with_reducible exact H2_) | (have H2_ := (Option.bind_some _ _).symm.trans H; with_reducible exact H2_) | with_reducible exact H | (rw [hy117]; exact H) | exact H
                            have Ny117 := Aside0.mk hy117
                            clear hy117
                            have H' := Aside0.mk H
                            clear H
                            go_wp2_with (first | ((with_reducible refine gate_builtin (b := .append) (xs := #[.tmp 31, .tmp 32]) rfl ?_); at_builtin; refine Kd.R_append (Kd.int .i64) (w0 := w) w.heap.size rfl (.tmp 31) (.tmp 32) 91 108 (.int .i64 0) 8 rfl Tryd.underlying91 info108 rfl (by decide) (by omega) u3 x3_22 5 [.int .i64 5] (fun _ => True) (fun _ => False) rfl rfl ?aP (fun _ hk => hk.elim) ?aF ?aO ?aB ?aS ?aL ?_; (case aP => exact rfl); (case aB => exact (by repeat (first | (with_reducible first | exact HB.out | apply below_alloc | apply pw_below_drewN | apply below_drew1 | refine below_set ?_ GE101.out) | exact HB.out))); (case aF => exact (fun _ _ => trivial)); (case aO => exact (by (with_reducible repeat (first | apply Kd.R_alloc | apply Kd.R_drewN | apply Kd.R_drew)); exact HO_3.out)); (case aS => exact (below_size (by repeat (first | (with_reducible first | exact HB.out | apply below_alloc | apply pw_below_drewN | apply below_drew1 | refine below_set ?_ GE101.out) | exact HB.out)))); (case aL => have := LMc31.out; omega); intro v118 w32 ho hb hg hat; rw [← Ny117.out] at ho; have n0_ := Aside0.mk (blk_grown (g := gb101) (o := .cells #[.bool a0_0, .bool a0_1, .bool a0_2, .bool a0_3, .bool a0_4, .bool true, .bool a0_6, .int .i64 a0_7] 67 (0, 0)) (by (with_reducible repeat (first | refine blk_drewN ?_ _ | refine blk_drew ?_ | refine blk_alloc ?_ _)); exact BK101.out) hg (Kd.R_ne HO_3.out BK101.out (by decide))); have n1_ := Aside0.mk (hb); have n2_ := Aside0.mk (ho); clear BK101; clear HB; clear HO_3; have BK101 := n0_; have HB := n1_; have HO119 := n2_; clear n0_ n1_ n2_; clear ho hb hg hat))
                            go_meet
                            case rel => exact ⟨_, (y117), H', ⟨by have := HJ1.out; have := HJ7.out; have := HJ12.out; have := HJ17.out; have := HJ22.out; first | omega | exact Nat.le_refl _⟩, ⟨by (with_reducible repeat (first | apply Kd.R_alloc | apply Kd.R_drewN | apply Kd.R_drew)); exact HO119.out⟩, ⟨by (with_reducible repeat (first | refine blk_drewN ?_ _ | refine blk_drew ?_ | refine blk_alloc ?_ _)); exact BK101.out⟩, ⟨by repeat (first | (with_reducible first | exact HB.out | apply below_alloc | apply pw_below_drewN | apply below_drew1 | refine below_set ?_ GE101.out) | exact HB.out)⟩⟩
                          · rw [if_neg c31] at H
                            exact absurd H (by simp)
                        · replace c30 := Bool.eq_false_iff.mpr c30
                          subst c30
                          have H1 : (impl_Options_list.j5 kj22 x3_22 a0_0 a0_1 a0_2 a0_3 a0_4 false a0_6 a0_7) = some r := by rw [if_neg (show ¬ (false = true) by decide)] at H; exact H
                          clear H
                          have H := H1
                          clear H1
                          have H' := Aside0.mk H
                          clear H
                          go_wp2
                          go_meet
                          case rel => exact ⟨_, (x3_22), H', ⟨by have := HJ1.out; have := HJ7.out; have := HJ12.out; have := HJ17.out; have := HJ22.out; first | omega | exact Nat.le_refl _⟩, ⟨by (with_reducible repeat (first | apply Kd.R_alloc | apply Kd.R_drewN | apply Kd.R_drew)); exact HO_3.out⟩, ⟨by (with_reducible repeat (first | refine blk_drewN ?_ _ | refine blk_drew ?_ | refine blk_alloc ?_ _)); exact BK101.out⟩, ⟨by repeat (first | (with_reducible first | exact HB.out | apply below_alloc | apply pw_below_drewN | apply below_drew1 | refine below_set ?_ GE101.out) | exact HB.out)⟩⟩
                      case rest =>
                        clear HC28
                        try clear c1
                        try clear c2
                        try clear p2
                        try clear c3
                        try clear c4
                        try clear c5
                        try clear c6
                        try clear c10
                        try clear c11
                        try clear c15
                        try clear c16
                        try clear c20
                        try clear c21
                        try clear c25
                        try clear c26
                        try clear c30
                        try clear c31
                        try clear hcz14_0
                        try clear hcz14_1
                        try clear hcz14_2
                        try clear hcz14_3
                        try clear hcz14_4
                        try clear hcz14_5
                        try clear hcz14_6
                        try clear hcz14_7
                        try clear hcz19_0
                        try clear hcz19_1
                        try clear hcz19_2
                        try clear hcz19_3
                        try clear hcz19_4
                        try clear hcz19_5
                        try clear hcz19_6
                        try clear hcz19_7
                        try clear hcz24_0
                        try clear hcz24_1
                        try clear hcz24_2
                        try clear hcz24_3
                        try clear hcz24_4
                        try clear hcz24_5
                        try clear hcz24_6
                        try clear hcz24_7
                        try clear hcz29_0
                        try clear hcz29_1
                        try clear hcz29_2
                        try clear hcz29_3
                        try clear hcz29_4
                        try clear hcz29_5
                        try clear hcz29_6
                        try clear hcz29_7
                        try clear hcz4_0
                        try clear hcz4_1
                        try clear hcz4_2
                        try clear hcz4_3
                        try clear hcz4_4
                        try clear hcz4_5
                        try clear hcz4_6
                        try clear hcz4_7
                        try clear hcz9_0
                        try clear hcz9_1
                        try clear hcz9_2
                        try clear hcz9_3
                        try clear hcz9_4
                        try clear hcz9_5
                        try clear hcz9_6
                        try clear hcz9_7
                        try clear hfz14_0
                        try clear hfz14_1
                        try clear hfz14_2
                        try clear hfz14_3
                        try clear hfz14_4
                        try clear hfz14_5
                        try clear hfz14_6
                        try clear hfz14_7
                        try clear hfz19_0
                        try clear hfz19_1
                        try clear hfz19_2
                        try clear hfz19_3
                        try clear hfz19_4
                        try clear hfz19_5
                        try clear hfz19_6
                        try clear hfz19_7
                        try clear hfz24_0
                        try clear hfz24_1
                        try clear hfz24_2
                        try clear hfz24_3
                        try clear hfz24_4
                        try clear hfz24_5
                        try clear hfz24_6
                        try clear hfz24_7
                        try clear hfz29_0
                        try clear hfz29_1
                        try clear hfz29_2
                        try clear hfz29_3
                        try clear hfz29_4
                        try clear hfz29_5
                        try clear hfz29_6
                        try clear hfz29_7
                        try clear hfz4_0
                        try clear hfz4_1
                        try clear hfz4_2
                        try clear hfz4_3
                        try clear hfz4_4
                        try clear hfz4_5
                        try clear hfz4_6
                        try clear hfz4_7
                        try clear hfz9_0
                        try clear hfz9_1
                        try clear hfz9_2
                        try clear hfz9_3
                        try clear hfz9_4
                        try clear hfz9_5
                        try clear hfz9_6
                        try clear hfz9_7
                        try clear p2
                        obtain ⟨kq, x3_27, HA, HJ27, HO_3, BK101, HB⟩ := hcut
                        cases kq with
                        | zero => exact absurd HA.out (by simp [impl_Options_list.j5])
                        | succ kj27 =>
                          have H := HA.out
                          clear HA
                          simp only [impl_Options_list.j5] at H
                          by_cases c33 : a0_6 = true
                          · subst c33
                            have H1 : (if x3_27.length < 17592186044416 then ((some (x3_27 ++ [6] : List Int)).bind fun y120 => (if a0_7 = 0 then (some y120) else ((demangle_MaxLength.f a0_7).bind fun t123 => (if y120.length < 17592186044416 then (some (y120 ++ [t123])) else (none))))) else (none)) = some r := by rw [if_pos rfl] at H; exact H
                            clear H
                            have H := H1
                            clear H1
                            by_cases c34 : x3_27.length < 17592186044416
                            · rw [if_pos c34] at H
                              have LMc34 := Aside0.mk c34
                              clear c34
                              obtain ⟨y120, hy120⟩ : ∃ y_ : List Int, y_ = (x3_27 ++ [6]) := ⟨_, rfl⟩
                              replace H : (if a0_7 = 0 then (some y120) else ((demangle_MaxLength.f a0_7).bind fun t123 => (if y120.length < 17592186044416 then (some (y120 ++ [t123])) else (none)))) = some r := by first | (rw [hy120]; with_reducible exact H) | (have H2_ := (Option.bind_some _ _).symm.trans H; rw [hy120]; with_reducible exact H2_) | (have H2_ := (Option.bind_some _ _).symm.trans H; with_reducible exact H2_) | with_reducible exact H | (rw [hy120]; exact H) | exact H
                              have Ny120 := Aside0.mk hy120
                              clear hy120
                              by_cases c35 : a0_7 = 0
                              · rw [if_pos c35] at H
                                have c35b0 : (a0_7 == 0) = true := beq_iff_eq.mpr c35
                                have c35b1 : (a0_7 != 0) = false := bne_eq_false_iff_eq.mpr c35
                                clear c35
                                obtain rfl := Option.some.inj H
                                have hcz36_0 : wc.cell? ⟨gb101, 0, none⟩ = some (.bool a0_0) := (blk_cell BK101.out 0).trans rfl
                                have hcz36_1 : wc.cell? ⟨gb101, 1, none⟩ = some (.bool a0_1) := (blk_cell BK101.out 1).trans rfl
                                have hcz36_2 : wc.cell? ⟨gb101, 2, none⟩ = some (.bool a0_2) := (blk_cell BK101.out 2).trans rfl
                                have hcz36_3 : wc.cell? ⟨gb101, 3, none⟩ = some (.bool a0_3) := (blk_cell BK101.out 3).trans rfl
                                have hcz36_4 : wc.cell? ⟨gb101, 4, none⟩ = some (.bool a0_4) := (blk_cell BK101.out 4).trans rfl
                                have hcz36_5 : wc.cell? ⟨gb101, 5, none⟩ = some (.bool a0_5) := (blk_cell BK101.out 5).trans rfl
                                have hcz36_6 : wc.cell? ⟨gb101, 6, none⟩ = some (.bool true) := (blk_cell BK101.out 6).trans rfl
                                have hcz36_7 : wc.cell? ⟨gb101, 7, none⟩ = some (.int .i64 a0_7) := (blk_cell BK101.out 7).trans rfl
                                have hfz36_0 := blk_frozen BK101.out 0
                                have hfz36_1 := blk_frozen BK101.out 1
                                have hfz36_2 := blk_frozen BK101.out 2
                                have hfz36_3 := blk_frozen BK101.out 3
                                have hfz36_4 := blk_frozen BK101.out 4
                                have hfz36_5 := blk_frozen BK101.out 5
                                have hfz36_6 := blk_frozen BK101.out 6
                                have hfz36_7 := blk_frozen BK101.out 7
                                go_wp2_with (first | ((with_reducible refine gate_builtin (b := .append) (xs := #[.tmp 36, .tmp 37]) rfl ?_); at_builtin; refine Kd.R_append (Kd.int .i64) (w0 := w) w.heap.size rfl (.tmp 36) (.tmp 37) 91 108 (.int .i64 0) 8 rfl Tryd.underlying91 info108 rfl (by decide) (by omega) u3 x3_27 6 [.int .i64 6] (fun _ => True) (fun _ => False) rfl rfl ?aP (fun _ hk => hk.elim) ?aF ?aO ?aB ?aS ?aL ?_; (case aP => exact rfl); (case aB => exact (by repeat (first | (with_reducible first | exact HB.out | apply below_alloc | apply pw_below_drewN | apply below_drew1 | refine below_set ?_ GE101.out) | exact HB.out))); (case aF => exact (fun _ _ => trivial)); (case aO => exact (by (with_reducible repeat (first | apply Kd.R_alloc | apply Kd.R_drewN | apply Kd.R_drew)); exact HO_3.out)); (case aS => exact (below_size (by repeat (first | (with_reducible first | exact HB.out | apply below_alloc | apply pw_below_drewN | apply below_drew1 | refine below_set ?_ GE101.out) | exact HB.out)))); (case aL => have := LMc34.out; omega); intro v121 w37 ho hb hg hat; rw [← Ny120.out] at ho; have n0_ := Aside0.mk (blk_grown (g := gb101) (o := .cells #[.bool a0_0, .bool a0_1, .bool a0_2, .bool a0_3, .bool a0_4, .bool a0_5, .bool true, .int .i64 a0_7] 67 (0, 0)) (by (with_reducible repeat (first | refine blk_drewN ?_ _ | refine blk_drew ?_ | refine blk_alloc ?_ _)); exact BK101.out) hg (Kd.R_ne HO_3.out BK101.out (by decide))); have n1_ := Aside0.mk (hb); have n2_ := Aside0.mk (ho); clear BK101; clear HB; clear HO_3; have BK101 := n0_; have HB := n1_; have HO122 := n2_; clear n0_ n1_ n2_; clear ho hb hg hat; have hcz38_0 : w37.cell? ⟨gb101, 0, none⟩ = some (.bool a0_0) := (blk_cell BK101.out 0).trans rfl; have hcz38_1 : w37.cell? ⟨gb101, 1, none⟩ = some (.bool a0_1) := (blk_cell BK101.out 1).trans rfl; have hcz38_2 : w37.cell? ⟨gb101, 2, none⟩ = some (.bool a0_2) := (blk_cell BK101.out 2).trans rfl; have hcz38_3 : w37.cell? ⟨gb101, 3, none⟩ = some (.bool a0_3) := (blk_cell BK101.out 3).trans rfl; have hcz38_4 : w37.cell? ⟨gb101, 4, none⟩ = some (.bool a0_4) := (blk_cell BK101.out 4).trans rfl; have hcz38_5 : w37.cell? ⟨gb101, 5, none⟩ = some (.bool a0_5) := (blk_cell BK101.out 5).trans rfl; have hcz38_6 : w37.cell? ⟨gb101, 6, none⟩ = some (.bool true) := (blk_cell BK101.out 6).trans rfl; have hcz38_7 : w37.cell? ⟨gb101, 7, none⟩ = some (.int .i64 a0_7) := (blk_cell BK101.out 7).trans rfl; have hfz38_0 := blk_frozen BK101.out 0; have hfz38_1 := blk_frozen BK101.out 1; have hfz38_2 := blk_frozen BK101.out 2; have hfz38_3 := blk_frozen BK101.out 3; have hfz38_4 := blk_frozen BK101.out 4; have hfz38_5 := blk_frozen BK101.out 5; have hfz38_6 := blk_frozen BK101.out 6; have hfz38_7 := blk_frozen BK101.out 7))
                                go_ret
                                exact ⟨_, by first | rfl | (simp [errW_none, errW_some] <;> rfl) | (simp [*, errW_none, errW_some] <;> rfl), by (with_reducible repeat (first | apply Kd.R_alloc | apply Kd.R_drewN | apply Kd.R_drew)); exact HO122.out, by repeat (first | (with_reducible first | exact HB.out | apply below_alloc | apply pw_below_drewN | apply below_drew1 | refine below_set ?_ GE101.out) | exact HB.out)⟩
                              · rw [if_neg c35] at H
                                have c35b0 : (a0_7 == 0) = false := beq_eq_false_iff_ne.mpr c35
                                have c35b1 : (a0_7 != 0) = true := bne_iff_ne.mpr c35
                                replace H := Option.bind_eq_some_iff.mp H
                                obtain ⟨t123, A390, H⟩ := H
                                replace H : (if y120.length < 17592186044416 then (some (y120 ++ [t123])) else (none)) = some r := H
                                have A39 := Aside0.mk A390
                                clear A390
                                by_cases c40 : y120.length < 17592186044416
                                · rw [if_pos c40] at H
                                  have LMc40 := Aside0.mk c40
                                  clear c40
                                  obtain ⟨y124, hy124⟩ : ∃ y_ : List Int, y_ = (y120 ++ [t123]) := ⟨_, rfl⟩
                                  replace H : (some y124) = some r := by first | (rw [hy124]; with_reducible exact H) | (have H2_ := (Option.bind_some _ _).symm.trans H; rw [hy124]; with_reducible exact H2_) | (have H2_ := (Option.bind_some _ _).symm.trans H; with_reducible exact H2_) | with_reducible exact H | (rw [hy124]; exact H) | exact H
                                  have Ny124 := Aside0.mk hy124
                                  clear hy124
                                  obtain rfl := Option.some.inj H
                                  have hcz41_0 : wc.cell? ⟨gb101, 0, none⟩ = some (.bool a0_0) := (blk_cell BK101.out 0).trans rfl
                                  have hcz41_1 : wc.cell? ⟨gb101, 1, none⟩ = some (.bool a0_1) := (blk_cell BK101.out 1).trans rfl
                                  have hcz41_2 : wc.cell? ⟨gb101, 2, none⟩ = some (.bool a0_2) := (blk_cell BK101.out 2).trans rfl
                                  have hcz41_3 : wc.cell? ⟨gb101, 3, none⟩ = some (.bool a0_3) := (blk_cell BK101.out 3).trans rfl
                                  have hcz41_4 : wc.cell? ⟨gb101, 4, none⟩ = some (.bool a0_4) := (blk_cell BK101.out 4).trans rfl
                                  have hcz41_5 : wc.cell? ⟨gb101, 5, none⟩ = some (.bool a0_5) := (blk_cell BK101.out 5).trans rfl
                                  have hcz41_6 : wc.cell? ⟨gb101, 6, none⟩ = some (.bool true) := (blk_cell BK101.out 6).trans rfl
                                  have hcz41_7 : wc.cell? ⟨gb101, 7, none⟩ = some (.int .i64 a0_7) := (blk_cell BK101.out 7).trans rfl
                                  have hfz41_0 := blk_frozen BK101.out 0
                                  have hfz41_1 := blk_frozen BK101.out 1
                                  have hfz41_2 := blk_frozen BK101.out 2
                                  have hfz41_3 := blk_frozen BK101.out 3
                                  have hfz41_4 := blk_frozen BK101.out 4
                                  have hfz41_5 := blk_frozen BK101.out 5
                                  have hfz41_6 := blk_frozen BK101.out 6
                                  have hfz41_7 := blk_frozen BK101.out 7
                                  go_wp2_with (first | ((with_reducible refine gate_builtin (b := .append) (xs := #[.tmp 36, .tmp 37]) rfl ?_); at_builtin; refine Kd.R_append (Kd.int .i64) (w0 := w) w.heap.size rfl (.tmp 36) (.tmp 37) 91 108 (.int .i64 0) 8 rfl Tryd.underlying91 info108 rfl (by decide) (by omega) u3 x3_27 6 [.int .i64 6] (fun _ => True) (fun _ => False) rfl rfl ?aP (fun _ hk => hk.elim) ?aF ?aO ?aB ?aS ?aL ?_; (case aP => exact rfl); (case aB => exact (by repeat (first | (with_reducible first | exact HB.out | apply below_alloc | apply pw_below_drewN | apply below_drew1 | refine below_set ?_ GE101.out) | exact HB.out))); (case aF => exact (fun _ _ => trivial)); (case aO => exact (by (with_reducible repeat (first | apply Kd.R_alloc | apply Kd.R_drewN | apply Kd.R_drew)); exact HO_3.out)); (case aS => exact (below_size (by repeat (first | (with_reducible first | exact HB.out | apply below_alloc | apply pw_below_drewN | apply below_drew1 | refine below_set ?_ GE101.out) | exact HB.out)))); (case aL => have := LMc34.out; omega); intro v121 w42 ho hb hg hat; rw [← Ny120.out] at ho; have n0_ := Aside0.mk (blk_grown (g := gb101) (o := .cells #[.bool a0_0, .bool a0_1, .bool a0_2, .bool a0_3, .bool a0_4, .bool a0_5, .bool true, .int .i64 a0_7] 67 (0, 0)) (by (with_reducible repeat (first | refine blk_drewN ?_ _ | refine blk_drew ?_ | refine blk_alloc ?_ _)); exact BK101.out) hg (Kd.R_ne HO_3.out BK101.out (by decide))); have n1_ := Aside0.mk (hb); have n2_ := Aside0.mk (ho); clear BK101; clear HB; clear HO_3; have BK101 := n0_; have HB := n1_; have HO122 := n2_; clear n0_ n1_ n2_; clear ho hb hg hat; have hcz43_0 : w42.cell? ⟨gb101, 0, none⟩ = some (.bool a0_0) := (blk_cell BK101.out 0).trans rfl; have hcz43_1 : w42.cell? ⟨gb101, 1, none⟩ = some (.bool a0_1) := (blk_cell BK101.out 1).trans rfl; have hcz43_2 : w42.cell? ⟨gb101, 2, none⟩ = some (.bool a0_2) := (blk_cell BK101.out 2).trans rfl; have hcz43_3 : w42.cell? ⟨gb101, 3, none⟩ = some (.bool a0_3) := (blk_cell BK101.out 3).trans rfl; have hcz43_4 : w42.cell? ⟨gb101, 4, none⟩ = some (.bool a0_4) := (blk_cell BK101.out 4).trans rfl; have hcz43_5 : w42.cell? ⟨gb101, 5, none⟩ = some (.bool a0_5) := (blk_cell BK101.out 5).trans rfl; have hcz43_6 : w42.cell? ⟨gb101, 6, none⟩ = some (.bool true) := (blk_cell BK101.out 6).trans rfl; have hcz43_7 : w42.cell? ⟨gb101, 7, none⟩ = some (.int .i64 a0_7) := (blk_cell BK101.out 7).trans rfl; have hfz43_0 := blk_frozen BK101.out 0; have hfz43_1 := blk_frozen BK101.out 1; have hfz43_2 := blk_frozen BK101.out 2; have hfz43_3 := blk_frozen BK101.out 3; have hfz43_4 := blk_frozen BK101.out 4; have hfz43_5 := blk_frozen BK101.out 5; have hfz43_6 := blk_frozen BK101.out 6; have hfz43_7 := blk_frozen BK101.out 7) | ((with_reducible refine gate_callee (f := 64) rfl ?_); refine goesL_ (some 45) rfl rfl Tryd.func64 (by kernel_rfl) rfl #[.int .i64 a0_7] rfl (by (try simp only [List.map_toArray, List.map_cons, List.map_nil]); first | done | rfl | (simp only [List.length_drop, List.length_take]; rfl)) ?_; (with_reducible refine (demangle_MaxLength.calls a0_7 t123 _ A39.out).mono ?_); rintro e w' ⟨rfl, ⟨nd, rfl⟩⟩; refine ⟨_, rfl, ?_⟩) | ((with_reducible refine gate_builtin (b := .append) (xs := #[.tmp 42, .tmp 46]) rfl ?_); at_builtin; refine Kd.R_append (Kd.int .i64) (w0 := w) w.heap.size rfl (.tmp 42) (.tmp 46) 91 108 (.int .i64 0) 8 rfl Tryd.underlying91 info108 rfl (by decide) (by omega) v121 y120 t123 [.int .i64 t123] (fun _ => True) (fun _ => False) rfl rfl ?aP (fun _ hk => hk.elim) ?aF ?aO ?aB ?aS ?aL ?_; (case aP => exact rfl); (case aB => exact (by repeat (first | (with_reducible first | exact HB.out | apply below_alloc | apply pw_below_drewN | apply below_drew1 | refine below_set ?_ GE101.out) | exact HB.out))); (case aF => exact (fun _ _ => trivial)); (case aO => exact (by (with_reducible repeat (first | apply Kd.R_alloc | apply Kd.R_drewN | apply Kd.R_drew)); exact HO122.out)); (case aS => exact (below_size (by repeat (first | (with_reducible first | exact HB.out | apply below_alloc | apply pw_below_drewN | apply below_drew1 | refine below_set ?_ GE101.out) | exact HB.out)))); (case aL => have := LMc40.out; omega); intro v125 w44 ho hb hg hat; rw [← Ny124.out] at ho; have n0_ := Aside0.mk (blk_grown (g := gb101) (o := .cells #[.bool a0_0, .bool a0_1, .bool a0_2, .bool a0_3, .bool a0_4, .bool a0_5, .bool true, .int .i64 a0_7] 67 (0, 0)) (by (with_reducible repeat (first | refine blk_drewN ?_ _ | refine blk_drew ?_ | refine blk_alloc ?_ _)); exact BK101.out) hg (Kd.R_ne HO122.out BK101.out (by decide))); have n1_ := Aside0.mk (hb); have n2_ := Aside0.mk (ho); clear BK101; clear HB; clear HO122; have BK101 := n0_; have HB := n1_; have HO126 := n2_; clear n0_ n1_ n2_; clear ho hb hg hat))
                                  go_ret
                                  exact ⟨_, by first | rfl | (simp [errW_none, errW_some] <;> rfl) | (simp [*, errW_none, errW_some] <;> rfl), by (with_reducible repeat (first | apply Kd.R_alloc | apply Kd.R_drewN | apply Kd.R_drew)); exact HO126.out, by repeat (first | (with_reducible first | exact HB.out | apply below_alloc | apply pw_below_drewN | apply below_drew1 | refine below_set ?_ GE101.out) | exact HB.out)⟩
                                · rw [if_neg c40] at H
                                  exact absurd H (by simp)
                            · rw [if_neg c34] at H
                              exact absurd H (by simp)
                          · replace c33 := Bool.eq_false_iff.mpr c33
                            subst c33
                            have H1 : (if a0_7 = 0 then (some x3_27) else ((demangle_MaxLength.f a0_7).bind fun t127 => (if x3_27.length < 17592186044416 then (some (x3_27 ++ [t127])) else (none)))) = some r := by rw [if_neg (show ¬ (false = true) by decide)] at H; exact H
                            clear H
                            have H := H1
                            clear H1
                            by_cases c45 : a0_7 = 0
                            · rw [if_pos c45] at H
                              have c45b0 : (a0_7 == 0) = true := beq_iff_eq.mpr c45
                              have c45b1 : (a0_7 != 0) = false := bne_eq_false_iff_eq.mpr c45
                              clear c45
                              obtain rfl := Option.some.inj H
                              have hcz46_0 : wc.cell? ⟨gb101, 0, none⟩ = some (.bool a0_0) := (blk_cell BK101.out 0).trans rfl
                              have hcz46_1 : wc.cell? ⟨gb101, 1, none⟩ = some (.bool a0_1) := (blk_cell BK101.out 1).trans rfl
                              have hcz46_2 : wc.cell? ⟨gb101, 2, none⟩ = some (.bool a0_2) := (blk_cell BK101.out 2).trans rfl
                              have hcz46_3 : wc.cell? ⟨gb101, 3, none⟩ = some (.bool a0_3) := (blk_cell BK101.out 3).trans rfl
                              have hcz46_4 : wc.cell? ⟨gb101, 4, none⟩ = some (.bool a0_4) := (blk_cell BK101.out 4).trans rfl
                              have hcz46_5 : wc.cell? ⟨gb101, 5, none⟩ = some (.bool a0_5) := (blk_cell BK101.out 5).trans rfl
                              have hcz46_6 : wc.cell? ⟨gb101, 6, none⟩ = some (.bool false) := (blk_cell BK101.out 6).trans rfl
                              have hcz46_7 : wc.cell? ⟨gb101, 7, none⟩ = some (.int .i64 a0_7) := (blk_cell BK101.out 7).trans rfl
                              have hfz46_0 := blk_frozen BK101.out 0
                              have hfz46_1 := blk_frozen BK101.out 1
                              have hfz46_2 := blk_frozen BK101.out 2
                              have hfz46_3 := blk_frozen BK101.out 3
                              have hfz46_4 := blk_frozen BK101.out 4
                              have hfz46_5 := blk_frozen BK101.out 5
                              have hfz46_6 := blk_frozen BK101.out 6
                              have hfz46_7 := blk_frozen BK101.out 7
                              go_wp2
                              go_ret
                              exact ⟨_, by first | rfl | (simp [errW_none, errW_some] <;> rfl) | (simp [*, errW_none, errW_some] <;> rfl), by (with_reducible repeat (first | apply Kd.R_alloc | apply Kd.R_drewN | apply Kd.R_drew)); exact HO_3.out, by repeat (first | (with_reducible first | exact HB.out | apply below_alloc | apply pw_below_drewN | apply below_drew1 | refine below_set ?_ GE101.out) | exact HB.out)⟩
                            · rw [if_neg c45] at H
                              have c45b0 : (a0_7 == 0) = false := beq_eq_false_iff_ne.mpr c45
                              have c45b1 : (a0_7 != 0) = true := bne_iff_ne.mpr c45
                              replace H := Option.bind_eq_some_iff.mp H
                              obtain ⟨t127, A470, H⟩ := H
                              replace H : (if x3_27.length < 17592186044416 then (some (x3_27 ++ [t127])) else (none)) = some r := H
                              have A47 := Aside0.mk A470
                              clear A470
                              by_cases c48 : x3_27.length < 17592186044416
                              · rw [if_pos c48] at H
                                have LMc48 := Aside0.mk c48
                                clear c48
                                obtain ⟨y128, hy128⟩ : ∃ y_ : List Int, y_ = (x3_27 ++ [t127]) := ⟨_, rfl⟩
                                replace H : (some y128) = some r := by first | (rw [hy128]; with_reducible exact H) | (have H2_ := (Option.bind_some _ _).symm.trans H; rw [hy128]; with_reducible exact H2_) | (have H2_ := (Option.bind_some _ _).symm.trans H; with_reducible exact H2_) | with_reducible exact H | (rw [hy128]; exact H) | exact H
                                have Ny128 := Aside0.mk hy128
                                clear hy128
                                obtain rfl := Option.some.inj H
                                have hcz49_0 : wc.cell? ⟨gb101, 0, none⟩ = some (.bool a0_0) := (blk_cell BK101.out 0).trans rfl
                                have hcz49_1 : wc.cell? ⟨gb101, 1, none⟩ = some (.bool a0_1) := (blk_cell BK101.out 1).trans rfl
                                have hcz49_2 : wc.cell? ⟨gb101, 2, none⟩ = some (.bool a0_2) := (blk_cell BK101.out 2).trans rfl
                                have hcz49_3 : wc.cell? ⟨gb101, 3, none⟩ = some (.bool a0_3) := (blk_cell BK101.out 3).trans rfl
                                have hcz49_4 : wc.cell? ⟨gb101, 4, none⟩ = some (.bool a0_4) := (blk_cell BK101.out 4).trans rfl
                                have hcz49_5 : wc.cell? ⟨gb101, 5, none⟩ = some (.bool a0_5) := (blk_cell BK101.out 5).trans rfl
                                have hcz49_6 : wc.cell? ⟨gb101, 6, none⟩ = some (.bool false) := (blk_cell BK101.out 6).trans rfl
                                have hcz49_7 : wc.cell? ⟨gb101, 7, none⟩ = some (.int .i64 a0_7) := (blk_cell BK101.out 7).trans rfl
                                have hfz49_0 := blk_frozen BK101.out 0
                                have hfz49_1 := blk_frozen BK101.out 1
                                have hfz49_2 := blk_frozen BK101.out 2
                                have hfz49_3 := blk_frozen BK101.out 3
                                have hfz49_4 := blk_frozen BK101.out 4
                                have hfz49_5 := blk_frozen BK101.out 5
                                have hfz49_6 := blk_frozen BK101.out 6
                                have hfz49_7 := blk_frozen BK101.out 7
                                go_wp2_with (first | ((with_reducible refine gate_callee (f := 64) rfl ?_); refine goesL_ (some 45) rfl rfl Tryd.func64 (by kernel_rfl) rfl #[.int .i64 a0_7] rfl (by (try simp only [List.map_toArray, List.map_cons, List.map_nil]); first | done | rfl | (simp only [List.length_drop, List.length_take]; rfl)) ?_; (with_reducible refine (demangle_MaxLength.calls a0_7 t127 _ A47.out).mono ?_); rintro e w' ⟨rfl, ⟨nd, rfl⟩⟩; refine ⟨_, rfl, ?_⟩) | ((with_reducible refine gate_builtin (b := .append) (xs := #[.tmp 42, .tmp 46]) rfl ?_); at_builtin; refine Kd.R_append (Kd.int .i64) (w0 := w) w.heap.size rfl (.tmp 42) (.tmp 46) 91 108 (.int .i64 0) 8 rfl Tryd.underlying91 info108 rfl (by decide) (by omega) u3 x3_27 t127 [.int .i64 t127] (fun _ => True) (fun _ => False) rfl rfl ?aP (fun _ hk => hk.elim) ?aF ?aO ?aB ?aS ?aL ?_; (case aP => exact rfl); (case aB => exact (by repeat (first | (with_reducible first | exact HB.out | apply below_alloc | apply pw_below_drewN | apply below_drew1 | refine below_set ?_ GE101.out) | exact HB.out))); (case aF => exact (fun _ _ => trivial)); (case aO => exact (by (with_reducible repeat (first | apply Kd.R_alloc | apply Kd.R_drewN | apply Kd.R_drew)); exact HO_3.out)); (case aS => exact (below_size (by repeat (first | (with_reducible first | exact HB.out | apply below_alloc | apply pw_below_drewN | apply below_drew1 | refine below_set ?_ GE101.out) | exact HB.out)))); (case aL => have := LMc48.out; omega); intro v129 w50 ho hb hg hat; rw [← Ny128.out] at ho; have n0_ := Aside0.mk (blk_grown (g := gb101) (o := .cells #[.bool a0_0, .bool a0_1, .bool a0_2, .bool a0_3, .bool a0_4, .bool a0_5, .bool false, .int .i64 a0_7] 67 (0, 0)) (by (with_reducible repeat (first | refine blk_drewN ?_ _ | refine blk_drew ?_ | refine blk_alloc ?_ _)); exact BK101.out) hg (Kd.R_ne HO_3.out BK101.out (by decide))); have n1_ := Aside0.mk (hb); have n2_ := Aside0.mk (ho); clear BK101; clear HB; clear HO_3; have BK101 := n0_; have HB := n1_; have HO130 := n2_; clear n0_ n1_ n2_; clear ho hb hg hat))
                                go_ret
                                exact ⟨_, by first | rfl | (simp [errW_none, errW_some] <;> rfl) | (simp [*, errW_none, errW_some] <;> rfl), by (with_reducible repeat (first | apply Kd.R_alloc | apply Kd.R_drewN | apply Kd.R_drew)); exact HO130.out, by repeat (first | (with_reducible first | exact HB.out | apply below_alloc | apply pw_below_drewN | apply below_drew1 | refine below_set ?_ GE101.out) | exact HB.out)⟩
                              · rw [if_neg c48] at H
                                exact absurd H (by simp)

end Go.Proofs.YtpmlnhddkbgefaaDoor.Plist
