/- Written by a program of this session (wip/tools/myprint.py) with the kit's print: contracts of the functions that one statement reaches; functions that are proved by hand are taken as printed. Conditions: none. -/
import Derived.Test.YtaegllbokgjoeaaDoorPconstantHerex0
import Derived.Test.YtaegllbokgjoeaaDoorPconstantHerex3
namespace Go.Proofs.YtaegllbokgjoeaaDoor.PconstantHere
open Go.RowKit Go.Proofs.YtaegllbokgjoeaaDoorW.PrintWords Go.Proofs.YtaegllbokgjoeaaDoorW.PrintLast Go.Proofs.YtaegllbokgjoeaaDoorW.PrintMore
attribute [local go_sem] max2_int min2_int max_two min_two max_three min_three max_four min_four   -- for this text's walks alone
set_option linter.unusedVariables false
set_option linter.unusedSimpArgs false

/-! ### spec_rustNumberText: function 10 -/
def spec_rustNumberText.j0 : Nat → Bool → Int → Int → ByteArray → Int → Bool → List (S25) → Option (ByteArray)
  | 0, _, _, _, _, _, _, _ => none
  | k + 1, x7, x317000, x317001, x317002, x317003, x317004, x317005 => if x7 = true then (some (⟨#[116, 114, 117, 101]⟩ : ByteArray)) else (if x317001 = 98 then (some (⟨#[102, 97, 108, 115, 101]⟩ : ByteArray)) else (if x317001 = 99 then ((some (([(x317003) % 256] : List Int) : List Int)).bind fun y317 => (if 1 + (strOfNums y317).size ≤ 9223372036854775807 then (if ((⟨#[39]⟩ : ByteArray) ++ (strOfNums y317)).size + 1 ≤ 9223372036854775807 then (some (((⟨#[39]⟩ : ByteArray) ++ (strOfNums y317)) ++ (⟨#[39]⟩ : ByteArray))) else (none)) else (none))) else (if x317004 = true then ((spec_RustDecimal.f k x317003).bind fun t320 => (if 1 + t320.size ≤ 9223372036854775807 then (some ((⟨#[45]⟩ : ByteArray) ++ t320)) else (none))) else ((spec_RustDecimal.f k x317003).bind fun t321 => (some t321)))))
def spec_rustNumberText.f (k : Nat) (a0_0 : Int) (a0_1 : Int) (a0_2 : ByteArray) (a0_3 : Int) (a0_4 : Bool) (l0_5 : List (S25)) : Option (ByteArray) := if a0_0 = 21 then (some (⟨#[95]⟩ : ByteArray)) else (if a0_1 = 98 then (spec_rustNumberText.j0 k (a0_3 == 1) a0_0 a0_1 a0_2 a0_3 a0_4 l0_5) else (spec_rustNumberText.j0 k false a0_0 a0_1 a0_2 a0_3 a0_4 l0_5))
theorem spec_rustNumberText.mono_l : ∀ k, (∀ y0 y1 y2 y3 y4 y5 y6, LeO (spec_rustNumberText.j0 k y0 y1 y2 y3 y4 y5 y6) (spec_rustNumberText.j0 (k + 1) y0 y1 y2 y3 y4 y5 y6))
  | 0 => fun _ _ _ _ _ _ _ r h => by simp [spec_rustNumberText.j0] at h
  | k + 1 => by
    have ih0 := spec_rustNumberText.mono_l k
    · intro y0 y1 y2 y3 y4 y5 y6
      unfold spec_rustNumberText.j0
      repeat' first
      | (with_reducible exact ih0 _ _ _ _ _ _ _)
      | (with_reducible exact spec_RustDecimal.mono _ _)
      | (with_reducible exact LeO.refl _)
      | (with_reducible exact LeO.none _)
      | (with_reducible refine LeO.ite ?_ ?_)
      | (with_reducible refine LeO.bind ?_ (fun _ => ?_))
      | exact ih0 _ _ _ _ _ _ _
      | exact spec_RustDecimal.mono _ _
      | exact LeO.none _
      | refine LeO.ite ?_ ?_
      | refine LeO.bind ?_ (fun _ => ?_)
theorem spec_rustNumberText.mono : ∀ a0 a1 a2 a3 a4 a5 k, LeO (spec_rustNumberText.f k a0 a1 a2 a3 a4 a5) (spec_rustNumberText.f (k + 1) a0 a1 a2 a3 a4 a5) := by
  intro a0 a1 a2 a3 a4 a5 k
  have ih0 := spec_rustNumberText.mono_l k
  unfold spec_rustNumberText.f
  repeat' first
      | (with_reducible exact ih0 _ _ _ _ _ _ _)
      | (with_reducible exact spec_RustDecimal.mono _ _)
      | (with_reducible exact LeO.refl _)
      | (with_reducible exact LeO.none _)
      | (with_reducible refine LeO.ite ?_ ?_)
      | (with_reducible refine LeO.bind ?_ (fun _ => ?_))
      | exact ih0 _ _ _ _ _ _ _
      | exact spec_RustDecimal.mono _ _
      | exact LeO.none _
      | refine LeO.ite ?_ ?_
      | refine LeO.bind ?_ (fun _ => ?_)
set_option maxHeartbeats 8000000 in
set_option maxRecDepth 100000 in
theorem spec_rustNumberText.calls (k : Nat) (a0_0 : Int) (a0_1 : Int) (a0_2 : ByteArray) (a0_3 : Int) (a0_4 : Bool) (A0_5 : Option Addr) (c0_5 : Nat) (l0_5 : List (S25)) (r : ByteArray) (w : World) (hr0_5 : Kd.C k25 w A0_5 l0_5.length l0_5) (hc0_5 : l0_5.length ≤ c0_5) (h : spec_rustNumberText.f k a0_0 a0_1 a0_2 a0_3 a0_4 l0_5 = some r) :
    Calls Tryd.prog 10 #[.agg #[.int .i64 a0_0, .int .u8 a0_1, .string a0_2, .int .u64 a0_3, .bool a0_4, .slice A0_5 l0_5.length c0_5]] w fun e w' => e = .returned (.string r) ∧ Below w.heap.size w w' := by
  have hu25 := Tryd.underlying25
  have HR0_5 := Aside0.mk hr0_5
  have HC0_5 := Aside0.mk hc0_5
  clear hr0_5 hc0_5
  have HB := Aside0.mk (Below.refl w.heap.size w)
  have H : (if a0_0 = 21 then (some (⟨#[95]⟩ : ByteArray)) else (if a0_1 = 98 then (spec_rustNumberText.j0 k (a0_3 == 1) a0_0 a0_1 a0_2 a0_3 a0_4 l0_5) else (spec_rustNumberText.j0 k false a0_0 a0_1 a0_2 a0_3 a0_4 l0_5))) = some r := h
  clear h
  by_cases c2 : a0_0 = 21
  · rw [if_pos c2] at H
    have c2b0 : (a0_0 == 21) = true := beq_iff_eq.mpr c2
    have c2b1 : (a0_0 != 21) = false := bne_eq_false_iff_eq.mpr c2
    clear c2
    obtain rfl := Option.some.inj H
    go_enter Tryd.func10, Tryd.ntmps10
    go_wp2_with (first | ((with_reducible refine gate_dst (N := 1) rfl ?_); refine box_event ?hg (N := 1) ?hd (cs := #[.int .i64 a0_0, .int .u8 a0_1, .string a0_2, .int .u64 a0_3, .bool a0_4, .slice A0_5 l0_5.length c0_5]) (t := 25) ?hr ?_; (case hd => rfl); (case hg => rfl); (case hr => first | (go_simp; done) | (go_simp; rfl)); intro gb316 hg w3 hbox hb; have n0_ := Aside0.mk (below_step (by repeat (first | (with_reducible first | exact HB.out | apply below_alloc | apply pw_below_drewN | apply below_drew1) | exact HB.out)) hb); have n1_ := Aside0.mk (hbox); have n2_ := Aside0.mk ((by rw [hg]; exact (below_size (by repeat (first | (with_reducible first | exact HB.out | apply below_alloc | apply pw_below_drewN | apply below_drew1) | exact HB.out))) : w.heap.size ≤ gb316)); have n3_ := Aside0.mk ((by rw [hg]; exact (below_size (by repeat (first | (with_reducible first | exact HB.out | apply below_alloc | apply pw_below_drewN | apply below_drew1) | exact HB.out))) : w.heap.size ≤ gb316)); clear HB; have HB := n0_; have BK316 := n1_; have GW316 := n2_; have GE316 := n3_; clear n0_ n1_ n2_ n3_; clear hb hbox hg; have hcz4_0 : w3.cell? ⟨gb316, 0, none⟩ = some (.int .i64 a0_0) := (blk_cell BK316.out 0).trans rfl; have hcz4_1 : w3.cell? ⟨gb316, 1, none⟩ = some (.int .u8 a0_1) := (blk_cell BK316.out 1).trans rfl; have hcz4_2 : w3.cell? ⟨gb316, 2, none⟩ = some (.string a0_2) := (blk_cell BK316.out 2).trans rfl; have hcz4_3 : w3.cell? ⟨gb316, 3, none⟩ = some (.int .u64 a0_3) := (blk_cell BK316.out 3).trans rfl; have hcz4_4 : w3.cell? ⟨gb316, 4, none⟩ = some (.bool a0_4) := (blk_cell BK316.out 4).trans rfl; have hcz4_5 : w3.cell? ⟨gb316, 5, none⟩ = some (.slice A0_5 l0_5.length c0_5) := (blk_cell BK316.out 5).trans rfl; have hfz4_0 := blk_frozen BK316.out 0; have hfz4_1 := blk_frozen BK316.out 1; have hfz4_2 := blk_frozen BK316.out 2; have hfz4_3 := blk_frozen BK316.out 3; have hfz4_4 := blk_frozen BK316.out 4; have hfz4_5 := blk_frozen BK316.out 5))
    go_ret
    exact ⟨by first | rfl | (simp [errW_none, errW_some] <;> rfl) | (simp [*, errW_none, errW_some] <;> rfl), by repeat (first | (with_reducible first | exact HB.out | apply below_alloc | apply pw_below_drewN | apply below_drew1 | refine below_set ?_ GE316.out) | exact HB.out)⟩
  · rw [if_neg c2] at H
    have c2b0 : (a0_0 == 21) = false := beq_eq_false_iff_ne.mpr c2
    have c2b1 : (a0_0 != 21) = true := bne_iff_ne.mpr c2
    have HC5 := Aside0.mk H
    clear H
    go_enter Tryd.func10, Tryd.ntmps10
    go_upto_region 3 with (first | ((with_reducible refine gate_dst (N := 1) rfl ?_); refine box_event ?hg (N := 1) ?hd (cs := #[.int .i64 a0_0, .int .u8 a0_1, .string a0_2, .int .u64 a0_3, .bool a0_4, .slice A0_5 l0_5.length c0_5]) (t := 25) ?hr ?_; (case hd => rfl); (case hg => rfl); (case hr => first | (go_simp; done) | (go_simp; rfl)); intro gb316 hg w6 hbox hb; have n0_ := Aside0.mk (below_step (by repeat (first | (with_reducible first | exact HB.out | apply below_alloc | apply pw_below_drewN | apply below_drew1) | exact HB.out)) hb); have n1_ := Aside0.mk (hbox); have n2_ := Aside0.mk ((by rw [hg]; exact (below_size (by repeat (first | (with_reducible first | exact HB.out | apply below_alloc | apply pw_below_drewN | apply below_drew1) | exact HB.out))) : w.heap.size ≤ gb316)); have n3_ := Aside0.mk ((by rw [hg]; exact (below_size (by repeat (first | (with_reducible first | exact HB.out | apply below_alloc | apply pw_below_drewN | apply below_drew1) | exact HB.out))) : w.heap.size ≤ gb316)); clear HB; have HB := n0_; have BK316 := n1_; have GW316 := n2_; have GE316 := n3_; clear n0_ n1_ n2_ n3_; clear hb hbox hg; have hcz7_0 : w6.cell? ⟨gb316, 0, none⟩ = some (.int .i64 a0_0) := (blk_cell BK316.out 0).trans rfl; have hcz7_1 : w6.cell? ⟨gb316, 1, none⟩ = some (.int .u8 a0_1) := (blk_cell BK316.out 1).trans rfl; have hcz7_2 : w6.cell? ⟨gb316, 2, none⟩ = some (.string a0_2) := (blk_cell BK316.out 2).trans rfl; have hcz7_3 : w6.cell? ⟨gb316, 3, none⟩ = some (.int .u64 a0_3) := (blk_cell BK316.out 3).trans rfl; have hcz7_4 : w6.cell? ⟨gb316, 4, none⟩ = some (.bool a0_4) := (blk_cell BK316.out 4).trans rfl; have hcz7_5 : w6.cell? ⟨gb316, 5, none⟩ = some (.slice A0_5 l0_5.length c0_5) := (blk_cell BK316.out 5).trans rfl; have hfz7_0 := blk_frozen BK316.out 0; have hfz7_1 := blk_frozen BK316.out 1; have hfz7_2 := blk_frozen BK316.out 2; have hfz7_3 := blk_frozen BK316.out 3; have hfz7_4 := blk_frozen BK316.out 4; have hfz7_5 := blk_frozen BK316.out 5))
    (try simp only [Act.put, List.setIfInBounds_toArray, List.set_cons_zero, List.set_cons_succ])
    go_cut [7] (fun v7 wc => ∃ (kq : Nat) (x7_4 : Bool), v7 = .bool x7_4 ∧ Aside0 (spec_rustNumberText.j0 kq x7_4 a0_0 a0_1 a0_2 a0_3 a0_4 l0_5 = some r) ∧ Aside0 (kq ≤ k) ∧ Aside0 (wc.heap[gb316]? = some (.cells #[.int .i64 a0_0, .int .u8 a0_1, .string a0_2, .int .u64 a0_3, .bool a0_4, (.slice A0_5 l0_5.length c0_5)] 25 (0, 0))) ∧ Aside0 (Below w.heap.size w wc))
    case first =>
      have H := HC5.out
      clear HC5
      by_cases c8 : a0_1 = 98
      · rw [if_pos c8] at H
        have c8b0 : (a0_1 == 98) = true := beq_iff_eq.mpr c8
        have c8b1 : (a0_1 != 98) = false := bne_eq_false_iff_eq.mpr c8
        clear c8
        (first | rw [c8b0] | (simp only [i64_w, i32_w]; rw [c8b0]) | rw [c8b1] | skip)
        have H' := Aside0.mk H
        clear H
        have hcz9_0 : w6.cell? ⟨gb316, 0, none⟩ = some (.int .i64 a0_0) := (blk_cell BK316.out 0).trans rfl
        have hcz9_1 : w6.cell? ⟨gb316, 1, none⟩ = some (.int .u8 a0_1) := (blk_cell BK316.out 1).trans rfl
        have hcz9_2 : w6.cell? ⟨gb316, 2, none⟩ = some (.string a0_2) := (blk_cell BK316.out 2).trans rfl
        have hcz9_3 : w6.cell? ⟨gb316, 3, none⟩ = some (.int .u64 a0_3) := (blk_cell BK316.out 3).trans rfl
        have hcz9_4 : w6.cell? ⟨gb316, 4, none⟩ = some (.bool a0_4) := (blk_cell BK316.out 4).trans rfl
        have hcz9_5 : w6.cell? ⟨gb316, 5, none⟩ = some (.slice A0_5 l0_5.length c0_5) := (blk_cell BK316.out 5).trans rfl
        have hfz9_0 := blk_frozen BK316.out 0
        have hfz9_1 := blk_frozen BK316.out 1
        have hfz9_2 := blk_frozen BK316.out 2
        have hfz9_3 := blk_frozen BK316.out 3
        have hfz9_4 := blk_frozen BK316.out 4
        have hfz9_5 := blk_frozen BK316.out 5
        go_wp2
        go_meet
        case rel => exact ⟨_, ((a0_3 == 1)), (by first | rfl | (simp; done) | (simp [*]; done)), H', ⟨by first | omega | exact Nat.le_refl _⟩, ⟨by (with_reducible repeat (first | refine blk_drewN ?_ _ | refine blk_drew ?_ | refine blk_alloc ?_ _)); exact BK316.out⟩, ⟨by repeat (first | (with_reducible first | exact HB.out | apply below_alloc | apply pw_below_drewN | apply below_drew1 | refine below_set ?_ GE316.out) | exact HB.out)⟩⟩
      · rw [if_neg c8] at H
        have c8b0 : (a0_1 == 98) = false := beq_eq_false_iff_ne.mpr c8
        have c8b1 : (a0_1 != 98) = true := bne_iff_ne.mpr c8
        (first | rw [c8b0] | (simp only [i64_w, i32_w]; rw [c8b0]) | rw [c8b1] | skip)
        have H' := Aside0.mk H
        clear H
        have hcz10_0 : w6.cell? ⟨gb316, 0, none⟩ = some (.int .i64 a0_0) := (blk_cell BK316.out 0).trans rfl
        have hcz10_1 : w6.cell? ⟨gb316, 1, none⟩ = some (.int .u8 a0_1) := (blk_cell BK316.out 1).trans rfl
        have hcz10_2 : w6.cell? ⟨gb316, 2, none⟩ = some (.string a0_2) := (blk_cell BK316.out 2).trans rfl
        have hcz10_3 : w6.cell? ⟨gb316, 3, none⟩ = some (.int .u64 a0_3) := (blk_cell BK316.out 3).trans rfl
        have hcz10_4 : w6.cell? ⟨gb316, 4, none⟩ = some (.bool a0_4) := (blk_cell BK316.out 4).trans rfl
        have hcz10_5 : w6.cell? ⟨gb316, 5, none⟩ = some (.slice A0_5 l0_5.length c0_5) := (blk_cell BK316.out 5).trans rfl
        have hfz10_0 := blk_frozen BK316.out 0
        have hfz10_1 := blk_frozen BK316.out 1
        have hfz10_2 := blk_frozen BK316.out 2
        have hfz10_3 := blk_frozen BK316.out 3
        have hfz10_4 := blk_frozen BK316.out 4
        have hfz10_5 := blk_frozen BK316.out 5
        go_wp2
        go_meet
        case rel => exact ⟨_, (false), (by first | rfl | (simp; done) | (simp [*]; done)), H', ⟨by first | omega | exact Nat.le_refl _⟩, ⟨by (with_reducible repeat (first | refine blk_drewN ?_ _ | refine blk_drew ?_ | refine blk_alloc ?_ _)); exact BK316.out⟩, ⟨by repeat (first | (with_reducible first | exact HB.out | apply below_alloc | apply pw_below_drewN | apply below_drew1 | refine below_set ?_ GE316.out) | exact HB.out)⟩⟩
    case rest =>
      clear HC5
      try clear c1
      try clear c2
      try clear c2b0
      try clear c2b1
      try clear p2
      try clear c8
      try clear c8b0
      try clear c8b1
      try clear c10
      try clear hcz10_0
      try clear hcz10_1
      try clear hcz10_2
      try clear hcz10_3
      try clear hcz10_4
      try clear hcz10_5
      try clear hcz4_0
      try clear hcz4_1
      try clear hcz4_2
      try clear hcz4_3
      try clear hcz4_4
      try clear hcz4_5
      try clear hcz7_0
      try clear hcz7_1
      try clear hcz7_2
      try clear hcz7_3
      try clear hcz7_4
      try clear hcz7_5
      try clear hcz9_0
      try clear hcz9_1
      try clear hcz9_2
      try clear hcz9_3
      try clear hcz9_4
      try clear hcz9_5
      try clear hfz10_0
      try clear hfz10_1
      try clear hfz10_2
      try clear hfz10_3
      try clear hfz10_4
      try clear hfz10_5
      try clear hfz4_0
      try clear hfz4_1
      try clear hfz4_2
      try clear hfz4_3
      try clear hfz4_4
      try clear hfz4_5
      try clear hfz7_0
      try clear hfz7_1
      try clear hfz7_2
      try clear hfz7_3
      try clear hfz7_4
      try clear hfz7_5
      try clear hfz9_0
      try clear hfz9_1
      try clear hfz9_2
      try clear hfz9_3
      try clear hfz9_4
      try clear hfz9_5
      obtain ⟨kq, x7_4, rfl, HA, HJ4, BK316, HB⟩ := hcut
      cases kq with
      | zero => exact absurd HA.out (by simp [spec_rustNumberText.j0])
      | succ kj4 =>
        have H := HA.out
        clear HA
        simp only [spec_rustNumberText.j0] at H
        by_cases c11 : x7_4 = true
        · subst c11
          have H1 : (some (⟨#[116, 114, 117, 101]⟩ : ByteArray)) = some r := by rw [if_pos rfl] at H; exact H
          clear H
          have H := H1
          clear H1
          obtain rfl := Option.some.inj H
          go_wp2
          go_ret
          exact ⟨by first | rfl | (simp [errW_none, errW_some] <;> rfl) | (simp [*, errW_none, errW_some] <;> rfl), by repeat (first | (with_reducible first | exact HB.out | apply below_alloc | apply pw_below_drewN | apply below_drew1 | refine below_set ?_ GE316.out) | exact HB.out)⟩
        · replace c11 := Bool.eq_false_iff.mpr c11
          subst c11
          have H1 : (if a0_1 = 98 then (some (⟨#[102, 97, 108, 115, 101]⟩ : ByteArray)) else (if a0_1 = 99 then ((some (([(a0_3) % 256] : List Int) : List Int)).bind fun y317 => (if 1 + (strOfNums y317).size ≤ 9223372036854775807 then (if ((⟨#[39]⟩ : ByteArray) ++ (strOfNums y317)).size + 1 ≤ 9223372036854775807 then (some (((⟨#[39]⟩ : ByteArray) ++ (strOfNums y317)) ++ (⟨#[39]⟩ : ByteArray))) else (none)) else (none))) else (if a0_4 = true then ((spec_RustDecimal.f kj4 a0_3).bind fun t320 => (if 1 + t320.size ≤ 9223372036854775807 then (some ((⟨#[45]⟩ : ByteArray) ++ t320)) else (none))) else ((spec_RustDecimal.f kj4 a0_3).bind fun t321 => (some t321))))) = some r := by rw [if_neg (show ¬ (false = true) by decide)] at H; exact H
          clear H
          have H := H1
          clear H1
          by_cases c12 : a0_1 = 98
          · rw [if_pos c12] at H
            have c12b0 : (a0_1 == 98) = true := beq_iff_eq.mpr c12
            have c12b1 : (a0_1 != 98) = false := bne_eq_false_iff_eq.mpr c12
            clear c12
            obtain rfl := Option.some.inj H
            have hcz13_0 : wc.cell? ⟨gb316, 0, none⟩ = some (.int .i64 a0_0) := (blk_cell BK316.out 0).trans rfl
            have hcz13_1 : wc.cell? ⟨gb316, 1, none⟩ = some (.int .u8 a0_1) := (blk_cell BK316.out 1).trans rfl
            have hcz13_2 : wc.cell? ⟨gb316, 2, none⟩ = some (.string a0_2) := (blk_cell BK316.out 2).trans rfl
            have hcz13_3 : wc.cell? ⟨gb316, 3, none⟩ = some (.int .u64 a0_3) := (blk_cell BK316.out 3).trans rfl
            have hcz13_4 : wc.cell? ⟨gb316, 4, none⟩ = some (.bool a0_4) := (blk_cell BK316.out 4).trans rfl
            have hcz13_5 : wc.cell? ⟨gb316, 5, none⟩ = some (.slice A0_5 l0_5.length c0_5) := (blk_cell BK316.out 5).trans rfl
            have hfz13_0 := blk_frozen BK316.out 0
            have hfz13_1 := blk_frozen BK316.out 1
            have hfz13_2 := blk_frozen BK316.out 2
            have hfz13_3 := blk_frozen BK316.out 3
            have hfz13_4 := blk_frozen BK316.out 4
            have hfz13_5 := blk_frozen BK316.out 5
            go_wp2
            go_ret
            exact ⟨by first | rfl | (simp [errW_none, errW_some] <;> rfl) | (simp [*, errW_none, errW_some] <;> rfl), by repeat (first | (with_reducible first | exact HB.out | apply below_alloc | apply pw_below_drewN | apply below_drew1 | refine below_set ?_ GE316.out) | exact HB.out)⟩
          · rw [if_neg c12] at H
            have c12b0 : (a0_1 == 98) = false := beq_eq_false_iff_ne.mpr c12
            have c12b1 : (a0_1 != 98) = true := bne_iff_ne.mpr c12
            by_cases c14 : a0_1 = 99
            · rw [if_pos c14] at H
              have c14b0 : (a0_1 == 99) = true := beq_iff_eq.mpr c14
              have c14b1 : (a0_1 != 99) = false := bne_eq_false_iff_eq.mpr c14
              clear c14
              obtain ⟨y317, hy317⟩ : ∃ y_ : List Int, y_ = (([(a0_3) % 256] : List Int)) := ⟨_, rfl⟩
              replace H : (if 1 + (strOfNums y317).size ≤ 9223372036854775807 then (if ((⟨#[39]⟩ : ByteArray) ++ (strOfNums y317)).size + 1 ≤ 9223372036854775807 then (some (((⟨#[39]⟩ : ByteArray) ++ (strOfNums y317)) ++ (⟨#[39]⟩ : ByteArray))) else (none)) else (none)) = some r := by first | (rw [hy317]; with_reducible exact H) | (have H2_ := (Option.bind_some _ _).symm.trans H; rw [hy317]; with_reducible exact H2_) | (have H2_ := (Option.bind_some _ _).symm.trans H; with_reducible exact H2_) | with_reducible exact H | (rw [hy317]; exact H) | exact H
              have Ny317 := Aside0.mk hy317
              clear hy317
              by_cases c15 : 1 + (strOfNums y317).size ≤ 9223372036854775807
              · rw [if_pos c15] at H
                have c15b0 := eq_true c15
                have c15b1 : decide (1 + (strOfNums y317).size ≤ 9223372036854775807) = true := decide_eq_true c15
                try have c15b2 : (9223372036854775807 < 1 + (strOfNums y317).size) = False := eq_false (Nat.not_lt.2 c15)
                by_cases c16 : ((⟨#[39]⟩ : ByteArray) ++ (strOfNums y317)).size + 1 ≤ 9223372036854775807
                · rw [if_pos c16] at H
                  have c16b0 := eq_true c16
                  have c16b1 : decide (((⟨#[39]⟩ : ByteArray) ++ (strOfNums y317)).size + 1 ≤ 9223372036854775807) = true := decide_eq_true c16
                  try have c16b2 : (9223372036854775807 < ((⟨#[39]⟩ : ByteArray) ++ (strOfNums y317)).size + 1) = False := eq_false (Nat.not_lt.2 c16)
                  try have c16b4 : (9223372036854775807 < 1 + (strOfNums y317).size + 1) = False := eq_false (by have h_ := c16; (repeat rw [ByteArray.size_append] at h_); exact Nat.not_lt.2 h_)
                  obtain rfl := Option.some.inj H
                  have hcz17_0 : wc.cell? ⟨gb316, 0, none⟩ = some (.int .i64 a0_0) := (blk_cell BK316.out 0).trans rfl
                  have hcz17_1 : wc.cell? ⟨gb316, 1, none⟩ = some (.int .u8 a0_1) := (blk_cell BK316.out 1).trans rfl
                  have hcz17_2 : wc.cell? ⟨gb316, 2, none⟩ = some (.string a0_2) := (blk_cell BK316.out 2).trans rfl
                  have hcz17_3 : wc.cell? ⟨gb316, 3, none⟩ = some (.int .u64 a0_3) := (blk_cell BK316.out 3).trans rfl
                  have hcz17_4 : wc.cell? ⟨gb316, 4, none⟩ = some (.bool a0_4) := (blk_cell BK316.out 4).trans rfl
                  have hcz17_5 : wc.cell? ⟨gb316, 5, none⟩ = some (.slice A0_5 l0_5.length c0_5) := (blk_cell BK316.out 5).trans rfl
                  have hfz17_0 := blk_frozen BK316.out 0
                  have hfz17_1 := blk_frozen BK316.out 1
                  have hfz17_2 := blk_frozen BK316.out 2
                  have hfz17_3 := blk_frozen BK316.out 3
                  have hfz17_4 := blk_frozen BK316.out 4
                  have hfz17_5 := blk_frozen BK316.out 5
                  go_wp2_with (first | ((with_reducible refine gate_dst (N := 27) rfl ?_); refine Kd.R_lit (Kd.int .u8) _ 5 ?hg (N := 27) ?hd (xs := ([(a0_3) % 256] : List Int)) (inner := [.int .u8 ((a0_3) % 256)]) (ok := fun _ => True) (okp := fun _ => True) ?hr ?hp (fun _ hk => hk) trivial (Below.refl _ _) (Nat.le_refl _) (by simp) ?_; (case hd => rfl); (case hg => rfl); (case hr => first | (go_simp; done) | (go_simp; rfl)); (case hp => exact (Reps.one (show Kd.M (Kd.int .u8) _ _ _ ((a0_3) % 256) [.int .u8 ((a0_3) % 256)] from rfl) (Reps.none _ _))); intro v318 w18 ho19 hb hg_ hnew_; clear hg_ hnew_; (first | rw [← Ny317.out] at ho19 | (simp only [Int.reduceToNat] at ho19; rw [← Ny317.out] at ho19)); have n0_ := Aside0.mk (Kd.R_lower ho19 (below_size (by repeat (first | (with_reducible first | exact HB.out | apply below_alloc | apply pw_below_drewN | apply below_drew1 | refine below_set ?_ GE316.out) | exact HB.out)))); have n1_ := Aside0.mk (blk_below (g := gb316) (o := .cells #[.int .i64 a0_0, .int .u8 a0_1, .string a0_2, .int .u64 a0_3, .bool a0_4, .slice A0_5 l0_5.length c0_5] 25 (0, 0)) (by (with_reducible repeat (first | refine blk_drewN ?_ _ | refine blk_drew ?_ | refine blk_alloc ?_ _)); exact BK316.out) hb); have n2_ := Aside0.mk (below_step (by repeat (first | (with_reducible first | exact HB.out | apply below_alloc | apply pw_below_drewN | apply below_drew1 | refine below_set ?_ GE316.out) | exact HB.out)) hb); clear BK316; clear HB; have HO319 := n0_; have BK316 := n1_; have HB := n2_; clear n0_ n1_ n2_; clear hb ho19; have hcv20 := own_string (P := Tryd.prog) Tryd.underlying46 Tryd.underlying5 Tryd.underlying9 (Kd.own_of_R HO319.out)))
                  go_ret
                  exact ⟨by first | rfl | (simp [errW_none, errW_some] <;> rfl) | (simp [*, errW_none, errW_some] <;> rfl), by repeat (first | (with_reducible first | exact HB.out | apply below_alloc | apply pw_below_drewN | apply below_drew1 | refine below_set ?_ GE316.out) | exact HB.out)⟩
                · rw [if_neg c16] at H
                  exact absurd H (by simp)
              · rw [if_neg c15] at H
                exact absurd H (by simp)
            · rw [if_neg c14] at H
              have c14b0 : (a0_1 == 99) = false := beq_eq_false_iff_ne.mpr c14
              have c14b1 : (a0_1 != 99) = true := bne_iff_ne.mpr c14
              by_cases c21 : a0_4 = true
              · subst c21
                have H1 : ((spec_RustDecimal.f kj4 a0_3).bind fun t320 => (if 1 + t320.size ≤ 9223372036854775807 then (some ((⟨#[45]⟩ : ByteArray) ++ t320)) else (none))) = some r := by rw [if_pos rfl] at H; exact H
                clear H
                have H := H1
                clear H1
                replace H := Option.bind_eq_some_iff.mp H
                obtain ⟨t320, A220, H⟩ := H
                replace H : (if 1 + t320.size ≤ 9223372036854775807 then (some ((⟨#[45]⟩ : ByteArray) ++ t320)) else (none)) = some r := H
                have A22 := Aside0.mk A220
                clear A220
                by_cases c23 : 1 + t320.size ≤ 9223372036854775807
                · rw [if_pos c23] at H
                  have c23b0 := eq_true c23
                  have c23b1 : decide (1 + t320.size ≤ 9223372036854775807) = true := decide_eq_true c23
                  try have c23b2 : (9223372036854775807 < 1 + t320.size) = False := eq_false (Nat.not_lt.2 c23)
                  obtain rfl := Option.some.inj H
                  have hcz24_0 : wc.cell? ⟨gb316, 0, none⟩ = some (.int .i64 a0_0) := (blk_cell BK316.out 0).trans rfl
                  have hcz24_1 : wc.cell? ⟨gb316, 1, none⟩ = some (.int .u8 a0_1) := (blk_cell BK316.out 1).trans rfl
                  have hcz24_2 : wc.cell? ⟨gb316, 2, none⟩ = some (.string a0_2) := (blk_cell BK316.out 2).trans rfl
                  have hcz24_3 : wc.cell? ⟨gb316, 3, none⟩ = some (.int .u64 a0_3) := (blk_cell BK316.out 3).trans rfl
                  have hcz24_4 : wc.cell? ⟨gb316, 4, none⟩ = some (.bool true) := (blk_cell BK316.out 4).trans rfl
                  have hcz24_5 : wc.cell? ⟨gb316, 5, none⟩ = some (.slice A0_5 l0_5.length c0_5) := (blk_cell BK316.out 5).trans rfl
                  have hfz24_0 := blk_frozen BK316.out 0
                  have hfz24_1 := blk_frozen BK316.out 1
                  have hfz24_2 := blk_frozen BK316.out 2
                  have hfz24_3 := blk_frozen BK316.out 3
                  have hfz24_4 := blk_frozen BK316.out 4
                  have hfz24_5 := blk_frozen BK316.out 5
                  go_wp2_with (first | ((with_reducible refine gate_callee (f := 17) rfl ?_); refine goesL_ (some 36) rfl rfl Tryd.func17 (by kernel_rfl) rfl #[.int .u64 a0_3] rfl (by (try simp only [List.map_toArray, List.map_cons, List.map_nil]); first | done | rfl | (simp only [List.length_drop, List.length_take]; rfl)) ?_; (with_reducible refine (spec_RustDecimal.calls kj4 a0_3 t320 _ A22.out).mono ?_); rintro e w25 ⟨rfl, hb⟩; refine ⟨_, rfl, ?_⟩; have n0_ := Aside0.mk (blk_below (g := gb316) (o := .cells #[.int .i64 a0_0, .int .u8 a0_1, .string a0_2, .int .u64 a0_3, .bool true, .slice A0_5 l0_5.length c0_5] 25 (0, 0)) (by (with_reducible repeat (first | refine blk_drewN ?_ _ | refine blk_drew ?_ | refine blk_alloc ?_ _)); exact BK316.out) hb); have n1_ := Aside0.mk (below_step (by repeat (first | (with_reducible first | exact HB.out | apply below_alloc | apply pw_below_drewN | apply below_drew1 | refine below_set ?_ GE316.out) | exact HB.out)) hb); clear BK316; clear HB; have BK316 := n0_; have HB := n1_; clear n0_ n1_; (try clear hb); (try clear hb2); (try clear hk); (try clear hi)))
                  go_ret
                  exact ⟨by first | rfl | (simp [errW_none, errW_some] <;> rfl) | (simp [*, errW_none, errW_some] <;> rfl), by repeat (first | (with_reducible first | exact HB.out | apply below_alloc | apply pw_below_drewN | apply below_drew1 | refine below_set ?_ GE316.out) | exact HB.out)⟩
                · rw [if_neg c23] at H
                  exact absurd H (by simp)
              · replace c21 := Bool.eq_false_iff.mpr c21
                subst c21
                have H1 : ((spec_RustDecimal.f kj4 a0_3).bind fun t321 => (some t321)) = some r := by rw [if_neg (show ¬ (false = true) by decide)] at H; exact H
                clear H
                have H := H1
                clear H1
                replace H := Option.bind_eq_some_iff.mp H
                obtain ⟨t321, A260, H⟩ := H
                replace H : (some t321) = some r := H
                have A26 := Aside0.mk A260
                clear A260
                obtain rfl := Option.some.inj H
                have hcz27_0 : wc.cell? ⟨gb316, 0, none⟩ = some (.int .i64 a0_0) := (blk_cell BK316.out 0).trans rfl
                have hcz27_1 : wc.cell? ⟨gb316, 1, none⟩ = some (.int .u8 a0_1) := (blk_cell BK316.out 1).trans rfl
                have hcz27_2 : wc.cell? ⟨gb316, 2, none⟩ = some (.string a0_2) := (blk_cell BK316.out 2).trans rfl
                have hcz27_3 : wc.cell? ⟨gb316, 3, none⟩ = some (.int .u64 a0_3) := (blk_cell BK316.out 3).trans rfl
                have hcz27_4 : wc.cell? ⟨gb316, 4, none⟩ = some (.bool false) := (blk_cell BK316.out 4).trans rfl
                have hcz27_5 : wc.cell? ⟨gb316, 5, none⟩ = some (.slice A0_5 l0_5.length c0_5) := (blk_cell BK316.out 5).trans rfl
                have hfz27_0 := blk_frozen BK316.out 0
                have hfz27_1 := blk_frozen BK316.out 1
                have hfz27_2 := blk_frozen BK316.out 2
                have hfz27_3 := blk_frozen BK316.out 3
                have hfz27_4 := blk_frozen BK316.out 4
                have hfz27_5 := blk_frozen BK316.out 5
                go_wp2_with (first | ((with_reducible refine gate_callee (f := 17) rfl ?_); refine goesL_ (some 40) rfl rfl Tryd.func17 (by kernel_rfl) rfl #[.int .u64 a0_3] rfl (by (try simp only [List.map_toArray, List.map_cons, List.map_nil]); first | done | rfl | (simp only [List.length_drop, List.length_take]; rfl)) ?_; (with_reducible refine (spec_RustDecimal.calls kj4 a0_3 t321 _ A26.out).mono ?_); rintro e w28 ⟨rfl, hb⟩; refine ⟨_, rfl, ?_⟩; have n0_ := Aside0.mk (blk_below (g := gb316) (o := .cells #[.int .i64 a0_0, .int .u8 a0_1, .string a0_2, .int .u64 a0_3, .bool false, .slice A0_5 l0_5.length c0_5] 25 (0, 0)) (by (with_reducible repeat (first | refine blk_drewN ?_ _ | refine blk_drew ?_ | refine blk_alloc ?_ _)); exact BK316.out) hb); have n1_ := Aside0.mk (below_step (by repeat (first | (with_reducible first | exact HB.out | apply below_alloc | apply pw_below_drewN | apply below_drew1 | refine below_set ?_ GE316.out) | exact HB.out)) hb); clear BK316; clear HB; have BK316 := n0_; have HB := n1_; clear n0_ n1_; (try clear hb); (try clear hb2); (try clear hk); (try clear hi)))
                go_ret
                exact ⟨by first | rfl | (simp [errW_none, errW_some] <;> rfl) | (simp [*, errW_none, errW_some] <;> rfl), by repeat (first | (with_reducible first | exact HB.out | apply below_alloc | apply pw_below_drewN | apply below_drew1 | refine below_set ?_ GE316.out) | exact HB.out)⟩

/-! ### spec_RustConstantText: function 6 -/
def spec_RustConstantText.f (k : Nat) (a0_0 : Int) (a0_1 : Int) (a0_2 : ByteArray) (a0_3 : Int) (a0_4 : Bool) (l0_5 : List (S25)) : Option (ByteArray) := (spec_rustNumberText.f k a0_0 a0_1 a0_2 a0_3 a0_4 l0_5).bind fun t323 => (some t323)
theorem spec_RustConstantText.mono : ∀ a0 a1 a2 a3 a4 a5 k, LeO (spec_RustConstantText.f k a0 a1 a2 a3 a4 a5) (spec_RustConstantText.f (k + 1) a0 a1 a2 a3 a4 a5) := by
  intro a0 a1 a2 a3 a4 a5 k
  unfold spec_RustConstantText.f
  repeat' first
      | (with_reducible exact spec_rustNumberText.mono _ _ _ _ _ _ _)
      | (with_reducible exact LeO.refl _)
      | (with_reducible exact LeO.none _)
      | (with_reducible refine LeO.ite ?_ ?_)
      | (with_reducible refine LeO.bind ?_ (fun _ => ?_))
      | exact spec_rustNumberText.mono _ _ _ _ _ _ _
      | exact LeO.none _
      | refine LeO.ite ?_ ?_
      | refine LeO.bind ?_ (fun _ => ?_)
set_option maxHeartbeats 8000000 in
set_option maxRecDepth 100000 in
theorem spec_RustConstantText.calls (k : Nat) (a0_0 : Int) (a0_1 : Int) (a0_2 : ByteArray) (a0_3 : Int) (a0_4 : Bool) (A0_5 : Option Addr) (c0_5 : Nat) (l0_5 : List (S25)) (r : ByteArray) (w : World) (hr0_5 : Kd.C k25 w A0_5 l0_5.length l0_5) (hc0_5 : l0_5.length ≤ c0_5) (h : spec_RustConstantText.f k a0_0 a0_1 a0_2 a0_3 a0_4 l0_5 = some r) :
    Calls Tryd.prog 6 #[.agg #[.int .i64 a0_0, .int .u8 a0_1, .string a0_2, .int .u64 a0_3, .bool a0_4, .slice A0_5 l0_5.length c0_5]] w fun e w' => e = .returned (.string r) ∧ Below w.heap.size w w' := by
  have hu25 := Tryd.underlying25
  have HR0_5 := Aside0.mk hr0_5
  have HC0_5 := Aside0.mk hc0_5
  clear hr0_5 hc0_5
  have HB := Aside0.mk (Below.refl w.heap.size w)
  have H : ((spec_rustNumberText.f k a0_0 a0_1 a0_2 a0_3 a0_4 l0_5).bind fun t323 => (some t323)) = some r := h
  clear h
  replace H := Option.bind_eq_some_iff.mp H
  obtain ⟨t323, A20, H⟩ := H
  replace H : (some t323) = some r := H
  have A2 := Aside0.mk A20
  clear A20
  obtain rfl := Option.some.inj H
  go_enter Tryd.func6, Tryd.ntmps6
  go_wp2_with (first | ((with_reducible refine gate_dst (N := 1) rfl ?_); refine box_event ?hg (N := 1) ?hd (cs := #[.int .i64 a0_0, .int .u8 a0_1, .string a0_2, .int .u64 a0_3, .bool a0_4, .slice A0_5 l0_5.length c0_5]) (t := 25) ?hr ?_; (case hd => rfl); (case hg => rfl); (case hr => first | (go_simp; done) | (go_simp; rfl)); intro gb322 hg w3 hbox hb; have n0_ := Aside0.mk (below_step (by repeat (first | (with_reducible first | exact HB.out | apply below_alloc | apply pw_below_drewN | apply below_drew1) | exact HB.out)) hb); have n1_ := Aside0.mk (hbox); have n2_ := Aside0.mk ((by rw [hg]; exact (below_size (by repeat (first | (with_reducible first | exact HB.out | apply below_alloc | apply pw_below_drewN | apply below_drew1) | exact HB.out))) : w.heap.size ≤ gb322)); have n3_ := Aside0.mk ((by rw [hg]; exact (below_size (by repeat (first | (with_reducible first | exact HB.out | apply below_alloc | apply pw_below_drewN | apply below_drew1) | exact HB.out))) : w.heap.size ≤ gb322)); clear HB; have HB := n0_; have BK322 := n1_; have GW322 := n2_; have GE322 := n3_; clear n0_ n1_ n2_ n3_; clear hb hbox hg; have hcz4_0 : w3.cell? ⟨gb322, 0, none⟩ = some (.int .i64 a0_0) := (blk_cell BK322.out 0).trans rfl; have hcz4_1 : w3.cell? ⟨gb322, 1, none⟩ = some (.int .u8 a0_1) := (blk_cell BK322.out 1).trans rfl; have hcz4_2 : w3.cell? ⟨gb322, 2, none⟩ = some (.string a0_2) := (blk_cell BK322.out 2).trans rfl; have hcz4_3 : w3.cell? ⟨gb322, 3, none⟩ = some (.int .u64 a0_3) := (blk_cell BK322.out 3).trans rfl; have hcz4_4 : w3.cell? ⟨gb322, 4, none⟩ = some (.bool a0_4) := (blk_cell BK322.out 4).trans rfl; have hcz4_5 : w3.cell? ⟨gb322, 5, none⟩ = some (.slice A0_5 l0_5.length c0_5) := (blk_cell BK322.out 5).trans rfl; have hfz4_0 := blk_frozen BK322.out 0; have hfz4_1 := blk_frozen BK322.out 1; have hfz4_2 := blk_frozen BK322.out 2; have hfz4_3 := blk_frozen BK322.out 3; have hfz4_4 := blk_frozen BK322.out 4; have hfz4_5 := blk_frozen BK322.out 5) | ((with_reducible refine gate_callee (f := 10) rfl ?_); refine goesL_ (some 4) rfl rfl Tryd.func10 (by kernel_rfl) rfl #[.agg #[.int .i64 a0_0, .int .u8 a0_1, .string a0_2, .int .u64 a0_3, .bool a0_4, .slice A0_5 l0_5.length c0_5]] rfl (by (try simp only [List.map_toArray, List.map_cons, List.map_nil]); first | done | rfl | (simp only [List.length_drop, List.length_take]; rfl)) ?_; (with_reducible refine (spec_rustNumberText.calls k a0_0 a0_1 a0_2 a0_3 a0_4 _ _ l0_5 t323 _ ?side1 ?side2 A2.out).mono ?_); (case side1 => repeat (first | exact (Kd.C_below HR0_5.out HB.out) | (with_reducible refine Kd.C_alloc ?_ _) | (with_reducible refine Kd.C_drewN ?_ _) | (with_reducible refine Kd.C_drew ?_))); (case side2 => exact HC0_5.out); rintro e w5 ⟨rfl, hb⟩; refine ⟨_, rfl, ?_⟩; have n0_ := Aside0.mk (blk_below (g := gb322) (o := .cells #[.int .i64 a0_0, .int .u8 a0_1, .string a0_2, .int .u64 a0_3, .bool a0_4, .slice A0_5 l0_5.length c0_5] 25 (0, 0)) (by (with_reducible repeat (first | refine blk_drewN ?_ _ | refine blk_drew ?_ | refine blk_alloc ?_ _)); exact BK322.out) hb); have n1_ := Aside0.mk (below_step (by repeat (first | (with_reducible first | exact HB.out | apply below_alloc | apply pw_below_drewN | apply below_drew1 | refine below_set ?_ GE322.out) | exact HB.out)) hb); clear BK322; clear HB; have BK322 := n0_; have HB := n1_; clear n0_ n1_; (try clear hb); (try clear hb2); (try clear hk); (try clear hi)))
  go_ret
  exact ⟨by first | rfl | (simp [errW_none, errW_some] <;> rfl) | (simp [*, errW_none, errW_some] <;> rfl), by repeat (first | (with_reducible first | exact HB.out | apply below_alloc | apply pw_below_drewN | apply below_drew1 | refine below_set ?_ GE322.out) | exact HB.out)⟩

end Go.Proofs.YtaegllbokgjoeaaDoor.PconstantHere
