/- Written by a program of this session (wip/tools/myprint.py) with the kit's print: contracts of the functions that one statement reaches; functions that are proved by hand are taken as printed. Conditions: none. -/
import Derived.Test.YtaegllbokgjoeaaDoorPconstantHerex0
import Derived.Test.YtaegllbokgjoeaaDoorPconstantHerex1
namespace Go.Proofs.YtaegllbokgjoeaaDoor.PconstantHere
open Go.RowKit Go.Proofs.YtaegllbokgjoeaaDoorW.PrintWords Go.Proofs.YtaegllbokgjoeaaDoorW.PrintLast Go.Proofs.YtaegllbokgjoeaaDoorW.PrintMore
attribute [local go_sem] max2_int min2_int max_two min_two max_three min_three max_four min_four   -- for this text's walks alone
set_option linter.unusedVariables false
set_option linter.unusedSimpArgs false

/-! ### spec_isRustNumber: function 25 -/
def spec_isRustNumber.f (k : Nat) (a0_0 : Int) (a0_1 : Int) (a0_2 : ByteArray) (a0_3 : Int) (a0_4 : Bool) (l0_5 : List (S25)) : Option (Bool) := if a0_1 = 98 then (if a0_3 ≤ 1 then (some (!a0_4)) else (some false)) else (if a0_1 = 99 then (if a0_3 ≥ 32 then (if a0_3 ≤ 126 then (if a0_3 = 39 then (some false) else (if a0_3 = 34 then (some false) else (if a0_3 = 92 then (some false) else (some (!a0_4))))) else (some false)) else (some false)) else ((spec_rustBits.f k a0_1).bind fun bt102 => (if bt102.1 = 0 then (some false) else (if bt102.2 = true then (if a0_4 = true then (if a0_3 > 0 then (if 0 ≤ (IntKind.u64.wrap (bt102.1 - 1)) then (some (decide (a0_3 ≤ (shl .u64 1 (IntKind.u64.wrap (bt102.1 - 1)))))) else (none)) else (some false)) else (if 0 ≤ (IntKind.u64.wrap (bt102.1 - 1)) then (some (decide (a0_3 < (shl .u64 1 (IntKind.u64.wrap (bt102.1 - 1)))))) else (none))) else (if a0_4 = true then (some false) else (if bt102.1 = 64 then (some true) else (if 0 ≤ bt102.1 then (some (decide (a0_3 < (shl .u64 1 bt102.1)))) else (none))))))))
theorem spec_isRustNumber.mono : ∀ a0 a1 a2 a3 a4 a5 k, LeO (spec_isRustNumber.f k a0 a1 a2 a3 a4 a5) (spec_isRustNumber.f (k + 1) a0 a1 a2 a3 a4 a5) := by
  intro a0 a1 a2 a3 a4 a5 k
  unfold spec_isRustNumber.f
  repeat' first
      | (with_reducible exact spec_rustBits.mono _ _)
      | (with_reducible exact LeO.refl _)
      | (with_reducible exact LeO.none _)
      | (with_reducible refine LeO.ite ?_ ?_)
      | (with_reducible refine LeO.bind ?_ (fun _ => ?_))
      | exact spec_rustBits.mono _ _
      | exact LeO.none _
      | refine LeO.ite ?_ ?_
      | refine LeO.bind ?_ (fun _ => ?_)
set_option maxHeartbeats 8000000 in
set_option maxRecDepth 100000 in
theorem spec_isRustNumber.calls (k : Nat) (a0_0 : Int) (a0_1 : Int) (a0_2 : ByteArray) (a0_3 : Int) (a0_4 : Bool) (A0_5 : Option Addr) (c0_5 : Nat) (l0_5 : List (S25)) (r : Bool) (w : World) (hr0_5 : Kd.C k25 w A0_5 l0_5.length l0_5) (hc0_5 : l0_5.length ≤ c0_5) (h : spec_isRustNumber.f k a0_0 a0_1 a0_2 a0_3 a0_4 l0_5 = some r) :
    Calls Tryd.prog 25 #[.agg #[.int .i64 a0_0, .int .u8 a0_1, .string a0_2, .int .u64 a0_3, .bool a0_4, .slice A0_5 l0_5.length c0_5]] w fun e w' => e = .returned (.bool r) ∧ Below w.heap.size w w' := by
  have hu25 := Tryd.underlying25
  have HR0_5 := Aside0.mk hr0_5
  have HC0_5 := Aside0.mk hc0_5
  clear hr0_5 hc0_5
  have HB := Aside0.mk (Below.refl w.heap.size w)
  have H : (if a0_1 = 98 then (if a0_3 ≤ 1 then (some (!a0_4)) else (some false)) else (if a0_1 = 99 then (if a0_3 ≥ 32 then (if a0_3 ≤ 126 then (if a0_3 = 39 then (some false) else (if a0_3 = 34 then (some false) else (if a0_3 = 92 then (some false) else (some (!a0_4))))) else (some false)) else (some false)) else ((spec_rustBits.f k a0_1).bind fun bt102 => (if bt102.1 = 0 then (some false) else (if bt102.2 = true then (if a0_4 = true then (if a0_3 > 0 then (if 0 ≤ (IntKind.u64.wrap (bt102.1 - 1)) then (some (decide (a0_3 ≤ (shl .u64 1 (IntKind.u64.wrap (bt102.1 - 1)))))) else (none)) else (some false)) else (if 0 ≤ (IntKind.u64.wrap (bt102.1 - 1)) then (some (decide (a0_3 < (shl .u64 1 (IntKind.u64.wrap (bt102.1 - 1)))))) else (none))) else (if a0_4 = true then (some false) else (if bt102.1 = 64 then (some true) else (if 0 ≤ bt102.1 then (some (decide (a0_3 < (shl .u64 1 bt102.1)))) else (none))))))))) = some r := h
  clear h
  by_cases c2 : a0_1 = 98
  · rw [if_pos c2] at H
    have c2b0 : (a0_1 == 98) = true := beq_iff_eq.mpr c2
    have c2b1 : (a0_1 != 98) = false := bne_eq_false_iff_eq.mpr c2
    clear c2
    by_cases c3 : a0_3 ≤ 1
    · rw [if_pos c3] at H
      have c3b0 : decide (a0_3 ≤ 1) = true := decide_eq_true c3
      clear c3
      obtain rfl := Option.some.inj H
      go_enter Tryd.func25, Tryd.ntmps25
      go_wp2_with (first | ((with_reducible refine gate_dst (N := 1) rfl ?_); refine box_event ?hg (N := 1) ?hd (cs := #[.int .i64 a0_0, .int .u8 a0_1, .string a0_2, .int .u64 a0_3, .bool a0_4, .slice A0_5 l0_5.length c0_5]) (t := 25) ?hr ?_; (case hd => rfl); (case hg => rfl); (case hr => first | (go_simp; done) | (go_simp; rfl)); intro gb101 hg w4 hbox hb; have n0_ := Aside0.mk (below_step (by repeat (first | (with_reducible first | exact HB.out | apply below_alloc | apply pw_below_drewN | apply below_drew1) | exact HB.out)) hb); have n1_ := Aside0.mk (hbox); have n2_ := Aside0.mk ((by rw [hg]; exact (below_size (by repeat (first | (with_reducible first | exact HB.out | apply below_alloc | apply pw_below_drewN | apply below_drew1) | exact HB.out))) : w.heap.size ≤ gb101)); have n3_ := Aside0.mk ((by rw [hg]; exact (below_size (by repeat (first | (with_reducible first | exact HB.out | apply below_alloc | apply pw_below_drewN | apply below_drew1) | exact HB.out))) : w.heap.size ≤ gb101)); clear HB; have HB := n0_; have BK101 := n1_; have GW101 := n2_; have GE101 := n3_; clear n0_ n1_ n2_ n3_; clear hb hbox hg; have hcz5_0 : w4.cell? ⟨gb101, 0, none⟩ = some (.int .i64 a0_0) := (blk_cell BK101.out 0).trans rfl; have hcz5_1 : w4.cell? ⟨gb101, 1, none⟩ = some (.int .u8 a0_1) := (blk_cell BK101.out 1).trans rfl; have hcz5_2 : w4.cell? ⟨gb101, 2, none⟩ = some (.string a0_2) := (blk_cell BK101.out 2).trans rfl; have hcz5_3 : w4.cell? ⟨gb101, 3, none⟩ = some (.int .u64 a0_3) := (blk_cell BK101.out 3).trans rfl; have hcz5_4 : w4.cell? ⟨gb101, 4, none⟩ = some (.bool a0_4) := (blk_cell BK101.out 4).trans rfl; have hcz5_5 : w4.cell? ⟨gb101, 5, none⟩ = some (.slice A0_5 l0_5.length c0_5) := (blk_cell BK101.out 5).trans rfl; have hfz5_0 := blk_frozen BK101.out 0; have hfz5_1 := blk_frozen BK101.out 1; have hfz5_2 := blk_frozen BK101.out 2; have hfz5_3 := blk_frozen BK101.out 3; have hfz5_4 := blk_frozen BK101.out 4; have hfz5_5 := blk_frozen BK101.out 5))
      go_ret
      exact ⟨by first | rfl | (simp [errW_none, errW_some] <;> rfl) | (simp [*, errW_none, errW_some] <;> rfl), by repeat (first | (with_reducible first | exact HB.out | apply below_alloc | apply pw_below_drewN | apply below_drew1 | refine below_set ?_ GE101.out) | exact HB.out)⟩
    · rw [if_neg c3] at H
      have c3b0 : decide (a0_3 ≤ 1) = false := decide_eq_false c3
      clear c3
      obtain rfl := Option.some.inj H
      go_enter Tryd.func25, Tryd.ntmps25
      go_wp2_with (first | ((with_reducible refine gate_dst (N := 1) rfl ?_); refine box_event ?hg (N := 1) ?hd (cs := #[.int .i64 a0_0, .int .u8 a0_1, .string a0_2, .int .u64 a0_3, .bool a0_4, .slice A0_5 l0_5.length c0_5]) (t := 25) ?hr ?_; (case hd => rfl); (case hg => rfl); (case hr => first | (go_simp; done) | (go_simp; rfl)); intro gb101 hg w6 hbox hb; have n0_ := Aside0.mk (below_step (by repeat (first | (with_reducible first | exact HB.out | apply below_alloc | apply pw_below_drewN | apply below_drew1) | exact HB.out)) hb); have n1_ := Aside0.mk (hbox); have n2_ := Aside0.mk ((by rw [hg]; exact (below_size (by repeat (first | (with_reducible first | exact HB.out | apply below_alloc | apply pw_below_drewN | apply below_drew1) | exact HB.out))) : w.heap.size ≤ gb101)); have n3_ := Aside0.mk ((by rw [hg]; exact (below_size (by repeat (first | (with_reducible first | exact HB.out | apply below_alloc | apply pw_below_drewN | apply below_drew1) | exact HB.out))) : w.heap.size ≤ gb101)); clear HB; have HB := n0_; have BK101 := n1_; have GW101 := n2_; have GE101 := n3_; clear n0_ n1_ n2_ n3_; clear hb hbox hg; have hcz7_0 : w6.cell? ⟨gb101, 0, none⟩ = some (.int .i64 a0_0) := (blk_cell BK101.out 0).trans rfl; have hcz7_1 : w6.cell? ⟨gb101, 1, none⟩ = some (.int .u8 a0_1) := (blk_cell BK101.out 1).trans rfl; have hcz7_2 : w6.cell? ⟨gb101, 2, none⟩ = some (.string a0_2) := (blk_cell BK101.out 2).trans rfl; have hcz7_3 : w6.cell? ⟨gb101, 3, none⟩ = some (.int .u64 a0_3) := (blk_cell BK101.out 3).trans rfl; have hcz7_4 : w6.cell? ⟨gb101, 4, none⟩ = some (.bool a0_4) := (blk_cell BK101.out 4).trans rfl; have hcz7_5 : w6.cell? ⟨gb101, 5, none⟩ = some (.slice A0_5 l0_5.length c0_5) := (blk_cell BK101.out 5).trans rfl; have hfz7_0 := blk_frozen BK101.out 0; have hfz7_1 := blk_frozen BK101.out 1; have hfz7_2 := blk_frozen BK101.out 2; have hfz7_3 := blk_frozen BK101.out 3; have hfz7_4 := blk_frozen BK101.out 4; have hfz7_5 := blk_frozen BK101.out 5))
      go_ret
      exact ⟨by first | rfl | (simp [errW_none, errW_some] <;> rfl) | (simp [*, errW_none, errW_some] <;> rfl), by repeat (first | (with_reducible first | exact HB.out | apply below_alloc | apply pw_below_drewN | apply below_drew1 | refine below_set ?_ GE101.out) | exact HB.out)⟩
  · rw [if_neg c2] at H
    have c2b0 : (a0_1 == 98) = false := beq_eq_false_iff_ne.mpr c2
    have c2b1 : (a0_1 != 98) = true := bne_iff_ne.mpr c2
    by_cases c8 : a0_1 = 99
    · rw [if_pos c8] at H
      have c8b0 : (a0_1 == 99) = true := beq_iff_eq.mpr c8
      have c8b1 : (a0_1 != 99) = false := bne_eq_false_iff_eq.mpr c8
      clear c8
      by_cases c9 : a0_3 ≥ 32
      · rw [if_pos c9] at H
        have c9b0 : decide (32 ≤ a0_3) = true := decide_eq_true c9
        clear c9
        by_cases c10 : a0_3 ≤ 126
        · rw [if_pos c10] at H
          have c10b0 : decide (a0_3 ≤ 126) = true := decide_eq_true c10
          clear c10
          by_cases c11 : a0_3 = 39
          · rw [if_pos c11] at H
            have c11b0 : (a0_3 == 39) = true := beq_iff_eq.mpr c11
            have c11b1 : (a0_3 != 39) = false := bne_eq_false_iff_eq.mpr c11
            clear c11
            obtain rfl := Option.some.inj H
            go_enter Tryd.func25, Tryd.ntmps25
            go_wp2_with (first | ((with_reducible refine gate_dst (N := 1) rfl ?_); refine box_event ?hg (N := 1) ?hd (cs := #[.int .i64 a0_0, .int .u8 a0_1, .string a0_2, .int .u64 a0_3, .bool a0_4, .slice A0_5 l0_5.length c0_5]) (t := 25) ?hr ?_; (case hd => rfl); (case hg => rfl); (case hr => first | (go_simp; done) | (go_simp; rfl)); intro gb101 hg w12 hbox hb; have n0_ := Aside0.mk (below_step (by repeat (first | (with_reducible first | exact HB.out | apply below_alloc | apply pw_below_drewN | apply below_drew1) | exact HB.out)) hb); have n1_ := Aside0.mk (hbox); have n2_ := Aside0.mk ((by rw [hg]; exact (below_size (by repeat (first | (with_reducible first | exact HB.out | apply below_alloc | apply pw_below_drewN | apply below_drew1) | exact HB.out))) : w.heap.size ≤ gb101)); have n3_ := Aside0.mk ((by rw [hg]; exact (below_size (by repeat (first | (with_reducible first | exact HB.out | apply below_alloc | apply pw_below_drewN | apply below_drew1) | exact HB.out))) : w.heap.size ≤ gb101)); clear HB; have HB := n0_; have BK101 := n1_; have GW101 := n2_; have GE101 := n3_; clear n0_ n1_ n2_ n3_; clear hb hbox hg; have hcz13_0 : w12.cell? ⟨gb101, 0, none⟩ = some (.int .i64 a0_0) := (blk_cell BK101.out 0).trans rfl; have hcz13_1 : w12.cell? ⟨gb101, 1, none⟩ = some (.int .u8 a0_1) := (blk_cell BK101.out 1).trans rfl; have hcz13_2 : w12.cell? ⟨gb101, 2, none⟩ = some (.string a0_2) := (blk_cell BK101.out 2).trans rfl; have hcz13_3 : w12.cell? ⟨gb101, 3, none⟩ = some (.int .u64 a0_3) := (blk_cell BK101.out 3).trans rfl; have hcz13_4 : w12.cell? ⟨gb101, 4, none⟩ = some (.bool a0_4) := (blk_cell BK101.out 4).trans rfl; have hcz13_5 : w12.cell? ⟨gb101, 5, none⟩ = some (.slice A0_5 l0_5.length c0_5) := (blk_cell BK101.out 5).trans rfl; have hfz13_0 := blk_frozen BK101.out 0; have hfz13_1 := blk_frozen BK101.out 1; have hfz13_2 := blk_frozen BK101.out 2; have hfz13_3 := blk_frozen BK101.out 3; have hfz13_4 := blk_frozen BK101.out 4; have hfz13_5 := blk_frozen BK101.out 5))
            go_ret
            exact ⟨by first | rfl | (simp [errW_none, errW_some] <;> rfl) | (simp [*, errW_none, errW_some] <;> rfl), by repeat (first | (with_reducible first | exact HB.out | apply below_alloc | apply pw_below_drewN | apply below_drew1 | refine below_set ?_ GE101.out) | exact HB.out)⟩
          · rw [if_neg c11] at H
            have c11b0 : (a0_3 == 39) = false := beq_eq_false_iff_ne.mpr c11
            have c11b1 : (a0_3 != 39) = true := bne_iff_ne.mpr c11
            by_cases c14 : a0_3 = 34
            · rw [if_pos c14] at H
              have c14b0 : (a0_3 == 34) = true := beq_iff_eq.mpr c14
              have c14b1 : (a0_3 != 34) = false := bne_eq_false_iff_eq.mpr c14
              clear c14
              obtain rfl := Option.some.inj H
              go_enter Tryd.func25, Tryd.ntmps25
              go_wp2_with (first | ((with_reducible refine gate_dst (N := 1) rfl ?_); refine box_event ?hg (N := 1) ?hd (cs := #[.int .i64 a0_0, .int .u8 a0_1, .string a0_2, .int .u64 a0_3, .bool a0_4, .slice A0_5 l0_5.length c0_5]) (t := 25) ?hr ?_; (case hd => rfl); (case hg => rfl); (case hr => first | (go_simp; done) | (go_simp; rfl)); intro gb101 hg w15 hbox hb; have n0_ := Aside0.mk (below_step (by repeat (first | (with_reducible first | exact HB.out | apply below_alloc | apply pw_below_drewN | apply below_drew1) | exact HB.out)) hb); have n1_ := Aside0.mk (hbox); have n2_ := Aside0.mk ((by rw [hg]; exact (below_size (by repeat (first | (with_reducible first | exact HB.out | apply below_alloc | apply pw_below_drewN | apply below_drew1) | exact HB.out))) : w.heap.size ≤ gb101)); have n3_ := Aside0.mk ((by rw [hg]; exact (below_size (by repeat (first | (with_reducible first | exact HB.out | apply below_alloc | apply pw_below_drewN | apply below_drew1) | exact HB.out))) : w.heap.size ≤ gb101)); clear HB; have HB := n0_; have BK101 := n1_; have GW101 := n2_; have GE101 := n3_; clear n0_ n1_ n2_ n3_; clear hb hbox hg; have hcz16_0 : w15.cell? ⟨gb101, 0, none⟩ = some (.int .i64 a0_0) := (blk_cell BK101.out 0).trans rfl; have hcz16_1 : w15.cell? ⟨gb101, 1, none⟩ = some (.int .u8 a0_1) := (blk_cell BK101.out 1).trans rfl; have hcz16_2 : w15.cell? ⟨gb101, 2, none⟩ = some (.string a0_2) := (blk_cell BK101.out 2).trans rfl; have hcz16_3 : w15.cell? ⟨gb101, 3, none⟩ = some (.int .u64 a0_3) := (blk_cell BK101.out 3).trans rfl; have hcz16_4 : w15.cell? ⟨gb101, 4, none⟩ = some (.bool a0_4) := (blk_cell BK101.out 4).trans rfl; have hcz16_5 : w15.cell? ⟨gb101, 5, none⟩ = some (.slice A0_5 l0_5.length c0_5) := (blk_cell BK101.out 5).trans rfl; have hfz16_0 := blk_frozen BK101.out 0; have hfz16_1 := blk_frozen BK101.out 1; have hfz16_2 := blk_frozen BK101.out 2; have hfz16_3 := blk_frozen BK101.out 3; have hfz16_4 := blk_frozen BK101.out 4; have hfz16_5 := blk_frozen BK101.out 5))
              go_ret
              exact ⟨by first | rfl | (simp [errW_none, errW_some] <;> rfl) | (simp [*, errW_none, errW_some] <;> rfl), by repeat (first | (with_reducible first | exact HB.out | apply below_alloc | apply pw_below_drewN | apply below_drew1 | refine below_set ?_ GE101.out) | exact HB.out)⟩
            · rw [if_neg c14] at H
              have c14b0 : (a0_3 == 34) = false := beq_eq_false_iff_ne.mpr c14
              have c14b1 : (a0_3 != 34) = true := bne_iff_ne.mpr c14
              by_cases c17 : a0_3 = 92
              · rw [if_pos c17] at H
                have c17b0 : (a0_3 == 92) = true := beq_iff_eq.mpr c17
                have c17b1 : (a0_3 != 92) = false := bne_eq_false_iff_eq.mpr c17
                clear c17
                obtain rfl := Option.some.inj H
                go_enter Tryd.func25, Tryd.ntmps25
                go_wp2_with (first | ((with_reducible refine gate_dst (N := 1) rfl ?_); refine box_event ?hg (N := 1) ?hd (cs := #[.int .i64 a0_0, .int .u8 a0_1, .string a0_2, .int .u64 a0_3, .bool a0_4, .slice A0_5 l0_5.length c0_5]) (t := 25) ?hr ?_; (case hd => rfl); (case hg => rfl); (case hr => first | (go_simp; done) | (go_simp; rfl)); intro gb101 hg w18 hbox hb; have n0_ := Aside0.mk (below_step (by repeat (first | (with_reducible first | exact HB.out | apply below_alloc | apply pw_below_drewN | apply below_drew1) | exact HB.out)) hb); have n1_ := Aside0.mk (hbox); have n2_ := Aside0.mk ((by rw [hg]; exact (below_size (by repeat (first | (with_reducible first | exact HB.out | apply below_alloc | apply pw_below_drewN | apply below_drew1) | exact HB.out))) : w.heap.size ≤ gb101)); have n3_ := Aside0.mk ((by rw [hg]; exact (below_size (by repeat (first | (with_reducible first | exact HB.out | apply below_alloc | apply pw_below_drewN | apply below_drew1) | exact HB.out))) : w.heap.size ≤ gb101)); clear HB; have HB := n0_; have BK101 := n1_; have GW101 := n2_; have GE101 := n3_; clear n0_ n1_ n2_ n3_; clear hb hbox hg; have hcz19_0 : w18.cell? ⟨gb101, 0, none⟩ = some (.int .i64 a0_0) := (blk_cell BK101.out 0).trans rfl; have hcz19_1 : w18.cell? ⟨gb101, 1, none⟩ = some (.int .u8 a0_1) := (blk_cell BK101.out 1).trans rfl; have hcz19_2 : w18.cell? ⟨gb101, 2, none⟩ = some (.string a0_2) := (blk_cell BK101.out 2).trans rfl; have hcz19_3 : w18.cell? ⟨gb101, 3, none⟩ = some (.int .u64 a0_3) := (blk_cell BK101.out 3).trans rfl; have hcz19_4 : w18.cell? ⟨gb101, 4, none⟩ = some (.bool a0_4) := (blk_cell BK101.out 4).trans rfl; have hcz19_5 : w18.cell? ⟨gb101, 5, none⟩ = some (.slice A0_5 l0_5.length c0_5) := (blk_cell BK101.out 5).trans rfl; have hfz19_0 := blk_frozen BK101.out 0; have hfz19_1 := blk_frozen BK101.out 1; have hfz19_2 := blk_frozen BK101.out 2; have hfz19_3 := blk_frozen BK101.out 3; have hfz19_4 := blk_frozen BK101.out 4; have hfz19_5 := blk_frozen BK101.out 5))
                go_ret
                exact ⟨by first | rfl | (simp [errW_none, errW_some] <;> rfl) | (simp [*, errW_none, errW_some] <;> rfl), by repeat (first | (with_reducible first | exact HB.out | apply below_alloc | apply pw_below_drewN | apply below_drew1 | refine below_set ?_ GE101.out) | exact HB.out)⟩
              · rw [if_neg c17] at H
                have c17b0 : (a0_3 == 92) = false := beq_eq_false_iff_ne.mpr c17
                have c17b1 : (a0_3 != 92) = true := bne_iff_ne.mpr c17
                obtain rfl := Option.some.inj H
                go_enter Tryd.func25, Tryd.ntmps25
                go_wp2_with (first | ((with_reducible refine gate_dst (N := 1) rfl ?_); refine box_event ?hg (N := 1) ?hd (cs := #[.int .i64 a0_0, .int .u8 a0_1, .string a0_2, .int .u64 a0_3, .bool a0_4, .slice A0_5 l0_5.length c0_5]) (t := 25) ?hr ?_; (case hd => rfl); (case hg => rfl); (case hr => first | (go_simp; done) | (go_simp; rfl)); intro gb101 hg w20 hbox hb; have n0_ := Aside0.mk (below_step (by repeat (first | (with_reducible first | exact HB.out | apply below_alloc | apply pw_below_drewN | apply below_drew1) | exact HB.out)) hb); have n1_ := Aside0.mk (hbox); have n2_ := Aside0.mk ((by rw [hg]; exact (below_size (by repeat (first | (with_reducible first | exact HB.out | apply below_alloc | apply pw_below_drewN | apply below_drew1) | exact HB.out))) : w.heap.size ≤ gb101)); have n3_ := Aside0.mk ((by rw [hg]; exact (below_size (by repeat (first | (with_reducible first | exact HB.out | apply below_alloc | apply pw_below_drewN | apply below_drew1) | exact HB.out))) : w.heap.size ≤ gb101)); clear HB; have HB := n0_; have BK101 := n1_; have GW101 := n2_; have GE101 := n3_; clear n0_ n1_ n2_ n3_; clear hb hbox hg; have hcz21_0 : w20.cell? ⟨gb101, 0, none⟩ = some (.int .i64 a0_0) := (blk_cell BK101.out 0).trans rfl; have hcz21_1 : w20.cell? ⟨gb101, 1, none⟩ = some (.int .u8 a0_1) := (blk_cell BK101.out 1).trans rfl; have hcz21_2 : w20.cell? ⟨gb101, 2, none⟩ = some (.string a0_2) := (blk_cell BK101.out 2).trans rfl; have hcz21_3 : w20.cell? ⟨gb101, 3, none⟩ = some (.int .u64 a0_3) := (blk_cell BK101.out 3).trans rfl; have hcz21_4 : w20.cell? ⟨gb101, 4, none⟩ = some (.bool a0_4) := (blk_cell BK101.out 4).trans rfl; have hcz21_5 : w20.cell? ⟨gb101, 5, none⟩ = some (.slice A0_5 l0_5.length c0_5) := (blk_cell BK101.out 5).trans rfl; have hfz21_0 := blk_frozen BK101.out 0; have hfz21_1 := blk_frozen BK101.out 1; have hfz21_2 := blk_frozen BK101.out 2; have hfz21_3 := blk_frozen BK101.out 3; have hfz21_4 := blk_frozen BK101.out 4; have hfz21_5 := blk_frozen BK101.out 5))
                go_ret
                exact ⟨by first | rfl | (simp [errW_none, errW_some] <;> rfl) | (simp [*, errW_none, errW_some] <;> rfl), by repeat (first | (with_reducible first | exact HB.out | apply below_alloc | apply pw_below_drewN | apply below_drew1 | refine below_set ?_ GE101.out) | exact HB.out)⟩
        · rw [if_neg c10] at H
          have c10b0 : decide (a0_3 ≤ 126) = false := decide_eq_false c10
          clear c10
          obtain rfl := Option.some.inj H
          go_enter Tryd.func25, Tryd.ntmps25
          go_wp2_with (first | ((with_reducible refine gate_dst (N := 1) rfl ?_); refine box_event ?hg (N := 1) ?hd (cs := #[.int .i64 a0_0, .int .u8 a0_1, .string a0_2, .int .u64 a0_3, .bool a0_4, .slice A0_5 l0_5.length c0_5]) (t := 25) ?hr ?_; (case hd => rfl); (case hg => rfl); (case hr => first | (go_simp; done) | (go_simp; rfl)); intro gb101 hg w22 hbox hb; have n0_ := Aside0.mk (below_step (by repeat (first | (with_reducible first | exact HB.out | apply below_alloc | apply pw_below_drewN | apply below_drew1) | exact HB.out)) hb); have n1_ := Aside0.mk (hbox); have n2_ := Aside0.mk ((by rw [hg]; exact (below_size (by repeat (first | (with_reducible first | exact HB.out | apply below_alloc | apply pw_below_drewN | apply below_drew1) | exact HB.out))) : w.heap.size ≤ gb101)); have n3_ := Aside0.mk ((by rw [hg]; exact (below_size (by repeat (first | (with_reducible first | exact HB.out | apply below_alloc | apply pw_below_drewN | apply below_drew1) | exact HB.out))) : w.heap.size ≤ gb101)); clear HB; have HB := n0_; have BK101 := n1_; have GW101 := n2_; have GE101 := n3_; clear n0_ n1_ n2_ n3_; clear hb hbox hg; have hcz23_0 : w22.cell? ⟨gb101, 0, none⟩ = some (.int .i64 a0_0) := (blk_cell BK101.out 0).trans rfl; have hcz23_1 : w22.cell? ⟨gb101, 1, none⟩ = some (.int .u8 a0_1) := (blk_cell BK101.out 1).trans rfl; have hcz23_2 : w22.cell? ⟨gb101, 2, none⟩ = some (.string a0_2) := (blk_cell BK101.out 2).trans rfl; have hcz23_3 : w22.cell? ⟨gb101, 3, none⟩ = some (.int .u64 a0_3) := (blk_cell BK101.out 3).trans rfl; have hcz23_4 : w22.cell? ⟨gb101, 4, none⟩ = some (.bool a0_4) := (blk_cell BK101.out 4).trans rfl; have hcz23_5 : w22.cell? ⟨gb101, 5, none⟩ = some (.slice A0_5 l0_5.length c0_5) := (blk_cell BK101.out 5).trans rfl; have hfz23_0 := blk_frozen BK101.out 0; have hfz23_1 := blk_frozen BK101.out 1; have hfz23_2 := blk_frozen BK101.out 2; have hfz23_3 := blk_frozen BK101.out 3; have hfz23_4 := blk_frozen BK101.out 4; have hfz23_5 := blk_frozen BK101.out 5))
          go_ret
          exact ⟨by first | rfl | (simp [errW_none, errW_some] <;> rfl) | (simp [*, errW_none, errW_some] <;> rfl), by repeat (first | (with_reducible first | exact HB.out | apply below_alloc | apply pw_below_drewN | apply below_drew1 | refine below_set ?_ GE101.out) | exact HB.out)⟩
      · rw [if_neg c9] at H
        have c9b0 : decide (32 ≤ a0_3) = false := decide_eq_false c9
        clear c9
        obtain rfl := Option.some.inj H
        go_enter Tryd.func25, Tryd.ntmps25
        go_wp2_with (first | ((with_reducible refine gate_dst (N := 1) rfl ?_); refine box_event ?hg (N := 1) ?hd (cs := #[.int .i64 a0_0, .int .u8 a0_1, .string a0_2, .int .u64 a0_3, .bool a0_4, .slice A0_5 l0_5.length c0_5]) (t := 25) ?hr ?_; (case hd => rfl); (case hg => rfl); (case hr => first | (go_simp; done) | (go_simp; rfl)); intro gb101 hg w24 hbox hb; have n0_ := Aside0.mk (below_step (by repeat (first | (with_reducible first | exact HB.out | apply below_alloc | apply pw_below_drewN | apply below_drew1) | exact HB.out)) hb); have n1_ := Aside0.mk (hbox); have n2_ := Aside0.mk ((by rw [hg]; exact (below_size (by repeat (first | (with_reducible first | exact HB.out | apply below_alloc | apply pw_below_drewN | apply below_drew1) | exact HB.out))) : w.heap.size ≤ gb101)); have n3_ := Aside0.mk ((by rw [hg]; exact (below_size (by repeat (first | (with_reducible first | exact HB.out | apply below_alloc | apply pw_below_drewN | apply below_drew1) | exact HB.out))) : w.heap.size ≤ gb101)); clear HB; have HB := n0_; have BK101 := n1_; have GW101 := n2_; have GE101 := n3_; clear n0_ n1_ n2_ n3_; clear hb hbox hg; have hcz25_0 : w24.cell? ⟨gb101, 0, none⟩ = some (.int .i64 a0_0) := (blk_cell BK101.out 0).trans rfl; have hcz25_1 : w24.cell? ⟨gb101, 1, none⟩ = some (.int .u8 a0_1) := (blk_cell BK101.out 1).trans rfl; have hcz25_2 : w24.cell? ⟨gb101, 2, none⟩ = some (.string a0_2) := (blk_cell BK101.out 2).trans rfl; have hcz25_3 : w24.cell? ⟨gb101, 3, none⟩ = some (.int .u64 a0_3) := (blk_cell BK101.out 3).trans rfl; have hcz25_4 : w24.cell? ⟨gb101, 4, none⟩ = some (.bool a0_4) := (blk_cell BK101.out 4).trans rfl; have hcz25_5 : w24.cell? ⟨gb101, 5, none⟩ = some (.slice A0_5 l0_5.length c0_5) := (blk_cell BK101.out 5).trans rfl; have hfz25_0 := blk_frozen BK101.out 0; have hfz25_1 := blk_frozen BK101.out 1; have hfz25_2 := blk_frozen BK101.out 2; have hfz25_3 := blk_frozen BK101.out 3; have hfz25_4 := blk_frozen BK101.out 4; have hfz25_5 := blk_frozen BK101.out 5))
        go_ret
        exact ⟨by first | rfl | (simp [errW_none, errW_some] <;> rfl) | (simp [*, errW_none, errW_some] <;> rfl), by repeat (first | (with_reducible first | exact HB.out | apply below_alloc | apply pw_below_drewN | apply below_drew1 | refine below_set ?_ GE101.out) | exact HB.out)⟩
    · rw [if_neg c8] at H
      have c8b0 : (a0_1 == 99) = false := beq_eq_false_iff_ne.mpr c8
      have c8b1 : (a0_1 != 99) = true := bne_iff_ne.mpr c8
      replace H := Option.bind_eq_some_iff.mp H
      obtain ⟨⟨t102, t103⟩, A260, H⟩ := H
      replace H : (if t102 = 0 then (some false) else (if t103 = true then (if a0_4 = true then (if a0_3 > 0 then (if 0 ≤ (IntKind.u64.wrap (t102 - 1)) then (some (decide (a0_3 ≤ (shl .u64 1 (IntKind.u64.wrap (t102 - 1)))))) else (none)) else (some false)) else (if 0 ≤ (IntKind.u64.wrap (t102 - 1)) then (some (decide (a0_3 < (shl .u64 1 (IntKind.u64.wrap (t102 - 1)))))) else (none))) else (if a0_4 = true then (some false) else (if t102 = 64 then (some true) else (if 0 ≤ t102 then (some (decide (a0_3 < (shl .u64 1 t102)))) else (none)))))) = some r := H
      have A26 := Aside0.mk A260
      clear A260
      by_cases c27 : t102 = 0
      · rw [if_pos c27] at H
        have c27b0 : (t102 == 0) = true := beq_iff_eq.mpr c27
        have c27b1 : (t102 != 0) = false := bne_eq_false_iff_eq.mpr c27
        clear c27
        obtain rfl := Option.some.inj H
        go_enter Tryd.func25, Tryd.ntmps25
        go_wp2_with (first | ((with_reducible refine gate_dst (N := 1) rfl ?_); refine box_event ?hg (N := 1) ?hd (cs := #[.int .i64 a0_0, .int .u8 a0_1, .string a0_2, .int .u64 a0_3, .bool a0_4, .slice A0_5 l0_5.length c0_5]) (t := 25) ?hr ?_; (case hd => rfl); (case hg => rfl); (case hr => first | (go_simp; done) | (go_simp; rfl)); intro gb101 hg w28 hbox hb; have n0_ := Aside0.mk (below_step (by repeat (first | (with_reducible first | exact HB.out | apply below_alloc | apply pw_below_drewN | apply below_drew1) | exact HB.out)) hb); have n1_ := Aside0.mk (hbox); have n2_ := Aside0.mk ((by rw [hg]; exact (below_size (by repeat (first | (with_reducible first | exact HB.out | apply below_alloc | apply pw_below_drewN | apply below_drew1) | exact HB.out))) : w.heap.size ≤ gb101)); have n3_ := Aside0.mk ((by rw [hg]; exact (below_size (by repeat (first | (with_reducible first | exact HB.out | apply below_alloc | apply pw_below_drewN | apply below_drew1) | exact HB.out))) : w.heap.size ≤ gb101)); clear HB; have HB := n0_; have BK101 := n1_; have GW101 := n2_; have GE101 := n3_; clear n0_ n1_ n2_ n3_; clear hb hbox hg; have hcz29_0 : w28.cell? ⟨gb101, 0, none⟩ = some (.int .i64 a0_0) := (blk_cell BK101.out 0).trans rfl; have hcz29_1 : w28.cell? ⟨gb101, 1, none⟩ = some (.int .u8 a0_1) := (blk_cell BK101.out 1).trans rfl; have hcz29_2 : w28.cell? ⟨gb101, 2, none⟩ = some (.string a0_2) := (blk_cell BK101.out 2).trans rfl; have hcz29_3 : w28.cell? ⟨gb101, 3, none⟩ = some (.int .u64 a0_3) := (blk_cell BK101.out 3).trans rfl; have hcz29_4 : w28.cell? ⟨gb101, 4, none⟩ = some (.bool a0_4) := (blk_cell BK101.out 4).trans rfl; have hcz29_5 : w28.cell? ⟨gb101, 5, none⟩ = some (.slice A0_5 l0_5.length c0_5) := (blk_cell BK101.out 5).trans rfl; have hfz29_0 := blk_frozen BK101.out 0; have hfz29_1 := blk_frozen BK101.out 1; have hfz29_2 := blk_frozen BK101.out 2; have hfz29_3 := blk_frozen BK101.out 3; have hfz29_4 := blk_frozen BK101.out 4; have hfz29_5 := blk_frozen BK101.out 5) | ((with_reducible refine gate_callee (f := 22) rfl ?_); refine goesL_ (some 50) rfl rfl Tryd.func22 (by kernel_rfl) rfl #[.int .u8 a0_1] rfl (by (try simp only [List.map_toArray, List.map_cons, List.map_nil]); first | done | rfl | (simp only [List.length_drop, List.length_take]; rfl)) ?_; (with_reducible refine (spec_rustBits.calls k a0_1 t102 t103 _ A26.out).mono ?_); rintro e w' ⟨rfl, ⟨nd, rfl⟩⟩; refine ⟨_, rfl, ?_⟩))
        go_ret
        exact ⟨by first | rfl | (simp [errW_none, errW_some] <;> rfl) | (simp [*, errW_none, errW_some] <;> rfl), by repeat (first | (with_reducible first | exact HB.out | apply below_alloc | apply pw_below_drewN | apply below_drew1 | refine below_set ?_ GE101.out) | exact HB.out)⟩
      · rw [if_neg c27] at H
        have c27b0 : (t102 == 0) = false := beq_eq_false_iff_ne.mpr c27
        have c27b1 : (t102 != 0) = true := bne_iff_ne.mpr c27
        by_cases c30 : t103 = true
        · subst c30
          have H1 : (if a0_4 = true then (if a0_3 > 0 then (if 0 ≤ (IntKind.u64.wrap (t102 - 1)) then (some (decide (a0_3 ≤ (shl .u64 1 (IntKind.u64.wrap (t102 - 1)))))) else (none)) else (some false)) else (if 0 ≤ (IntKind.u64.wrap (t102 - 1)) then (some (decide (a0_3 < (shl .u64 1 (IntKind.u64.wrap (t102 - 1)))))) else (none))) = some r := by rw [if_pos rfl] at H; exact H
          clear H
          have H := H1
          clear H1
          by_cases c31 : a0_4 = true
          · subst c31
            have H1 : (if a0_3 > 0 then (if 0 ≤ (IntKind.u64.wrap (t102 - 1)) then (some (decide (a0_3 ≤ (shl .u64 1 (IntKind.u64.wrap (t102 - 1)))))) else (none)) else (some false)) = some r := by rw [if_pos rfl] at H; exact H
            clear H
            have H := H1
            clear H1
            by_cases c32 : a0_3 > 0
            · rw [if_pos c32] at H
              have c32b0 : decide (0 < a0_3) = true := decide_eq_true c32
              clear c32
              obtain ⟨ji33, hji33⟩ : ∃ j_ : Int, (IntKind.u64.wrap (t102 - 1)) = j_ := ⟨_, rfl⟩
              replace H : (if 0 ≤ (ji33) then (some (decide (a0_3 ≤ (shl .u64 1 (ji33))))) else (none)) = some r := by first | (rw [hji33] at H; exact H) | (simp only [hji33] at H ⊢; exact H)
              (try rw [hji33] at A26)
              by_cases c34 : 0 ≤ (ji33)
              · rw [if_pos c34] at H
                have c34b0 := eq_true c34
                have c34b1 : decide (0 ≤ (ji33)) = true := decide_eq_true c34
                clear c34
                obtain ⟨ji35, hji35⟩ : ∃ j_ : Int, (shl .u64 1 (ji33)) = j_ := ⟨_, rfl⟩
                replace H : (some (decide (a0_3 ≤ (ji35)))) = some r := by first | (rw [hji35] at H; exact H) | (simp only [hji35] at H ⊢; exact H)
                (try rw [hji35] at A26)
                have hji35_ : (IntKind.u64.wrap (1 * 2 ^ min (ji33).toNat 64)) = ji35 := hji35
                have hji35z : (ji33) ≤ 64 → (IntKind.u64.wrap (1 * 2 ^ (ji33).toNat)) = ji35 := shl_small hji35
                have hji35u : (IntKind.u64.wrap (2 ^ min (ji33).toNat 64)) = ji35 := by have h_ := hji35_; rw [Int.one_mul] at h_; exact h_
                have hji35v : (ji33) ≤ 64 → (IntKind.u64.wrap (2 ^ (ji33).toNat)) = ji35 := fun hle_ => by have h_ := hji35z hle_; rw [Int.one_mul] at h_; exact h_
                obtain rfl := Option.some.inj H
                go_enter Tryd.func25, Tryd.ntmps25
                go_wp2_with (first | ((with_reducible refine gate_dst (N := 1) rfl ?_); refine box_event ?hg (N := 1) ?hd (cs := #[.int .i64 a0_0, .int .u8 a0_1, .string a0_2, .int .u64 a0_3, .bool true, .slice A0_5 l0_5.length c0_5]) (t := 25) ?hr ?_; (case hd => rfl); (case hg => rfl); (case hr => first | (go_simp; done) | (go_simp; rfl)); intro gb101 hg w36 hbox hb; have n0_ := Aside0.mk (below_step (by repeat (first | (with_reducible first | exact HB.out | apply below_alloc | apply pw_below_drewN | apply below_drew1) | exact HB.out)) hb); have n1_ := Aside0.mk (hbox); have n2_ := Aside0.mk ((by rw [hg]; exact (below_size (by repeat (first | (with_reducible first | exact HB.out | apply below_alloc | apply pw_below_drewN | apply below_drew1) | exact HB.out))) : w.heap.size ≤ gb101)); have n3_ := Aside0.mk ((by rw [hg]; exact (below_size (by repeat (first | (with_reducible first | exact HB.out | apply below_alloc | apply pw_below_drewN | apply below_drew1) | exact HB.out))) : w.heap.size ≤ gb101)); clear HB; have HB := n0_; have BK101 := n1_; have GW101 := n2_; have GE101 := n3_; clear n0_ n1_ n2_ n3_; clear hb hbox hg; have hcz37_0 : w36.cell? ⟨gb101, 0, none⟩ = some (.int .i64 a0_0) := (blk_cell BK101.out 0).trans rfl; have hcz37_1 : w36.cell? ⟨gb101, 1, none⟩ = some (.int .u8 a0_1) := (blk_cell BK101.out 1).trans rfl; have hcz37_2 : w36.cell? ⟨gb101, 2, none⟩ = some (.string a0_2) := (blk_cell BK101.out 2).trans rfl; have hcz37_3 : w36.cell? ⟨gb101, 3, none⟩ = some (.int .u64 a0_3) := (blk_cell BK101.out 3).trans rfl; have hcz37_4 : w36.cell? ⟨gb101, 4, none⟩ = some (.bool true) := (blk_cell BK101.out 4).trans rfl; have hcz37_5 : w36.cell? ⟨gb101, 5, none⟩ = some (.slice A0_5 l0_5.length c0_5) := (blk_cell BK101.out 5).trans rfl; have hfz37_0 := blk_frozen BK101.out 0; have hfz37_1 := blk_frozen BK101.out 1; have hfz37_2 := blk_frozen BK101.out 2; have hfz37_3 := blk_frozen BK101.out 3; have hfz37_4 := blk_frozen BK101.out 4; have hfz37_5 := blk_frozen BK101.out 5) | ((with_reducible refine gate_callee (f := 22) rfl ?_); refine goesL_ (some 50) rfl rfl Tryd.func22 (by kernel_rfl) rfl #[.int .u8 a0_1] rfl (by (try simp only [List.map_toArray, List.map_cons, List.map_nil]); first | done | rfl | (simp only [List.length_drop, List.length_take]; rfl)) ?_; (with_reducible refine (spec_rustBits.calls k a0_1 t102 true _ A26.out).mono ?_); rintro e w' ⟨rfl, ⟨nd, rfl⟩⟩; refine ⟨_, rfl, ?_⟩))
                go_ret
                exact ⟨by first | rfl | (simp [errW_none, errW_some] <;> rfl) | (simp only [← hji33, ← hji35]; first | rfl | (simp [errW_none, errW_some] <;> rfl)) | (simp [*, errW_none, errW_some] <;> rfl), by repeat (first | (with_reducible first | exact HB.out | apply below_alloc | apply pw_below_drewN | apply below_drew1 | refine below_set ?_ GE101.out) | exact HB.out)⟩
              · rw [if_neg c34] at H
                exact absurd H (by simp)
            · rw [if_neg c32] at H
              have c32b0 : decide (0 < a0_3) = false := decide_eq_false c32
              clear c32
              obtain rfl := Option.some.inj H
              go_enter Tryd.func25, Tryd.ntmps25
              go_wp2_with (first | ((with_reducible refine gate_dst (N := 1) rfl ?_); refine box_event ?hg (N := 1) ?hd (cs := #[.int .i64 a0_0, .int .u8 a0_1, .string a0_2, .int .u64 a0_3, .bool true, .slice A0_5 l0_5.length c0_5]) (t := 25) ?hr ?_; (case hd => rfl); (case hg => rfl); (case hr => first | (go_simp; done) | (go_simp; rfl)); intro gb101 hg w38 hbox hb; have n0_ := Aside0.mk (below_step (by repeat (first | (with_reducible first | exact HB.out | apply below_alloc | apply pw_below_drewN | apply below_drew1) | exact HB.out)) hb); have n1_ := Aside0.mk (hbox); have n2_ := Aside0.mk ((by rw [hg]; exact (below_size (by repeat (first | (with_reducible first | exact HB.out | apply below_alloc | apply pw_below_drewN | apply below_drew1) | exact HB.out))) : w.heap.size ≤ gb101)); have n3_ := Aside0.mk ((by rw [hg]; exact (below_size (by repeat (first | (with_reducible first | exact HB.out | apply below_alloc | apply pw_below_drewN | apply below_drew1) | exact HB.out))) : w.heap.size ≤ gb101)); clear HB; have HB := n0_; have BK101 := n1_; have GW101 := n2_; have GE101 := n3_; clear n0_ n1_ n2_ n3_; clear hb hbox hg; have hcz39_0 : w38.cell? ⟨gb101, 0, none⟩ = some (.int .i64 a0_0) := (blk_cell BK101.out 0).trans rfl; have hcz39_1 : w38.cell? ⟨gb101, 1, none⟩ = some (.int .u8 a0_1) := (blk_cell BK101.out 1).trans rfl; have hcz39_2 : w38.cell? ⟨gb101, 2, none⟩ = some (.string a0_2) := (blk_cell BK101.out 2).trans rfl; have hcz39_3 : w38.cell? ⟨gb101, 3, none⟩ = some (.int .u64 a0_3) := (blk_cell BK101.out 3).trans rfl; have hcz39_4 : w38.cell? ⟨gb101, 4, none⟩ = some (.bool true) := (blk_cell BK101.out 4).trans rfl; have hcz39_5 : w38.cell? ⟨gb101, 5, none⟩ = some (.slice A0_5 l0_5.length c0_5) := (blk_cell BK101.out 5).trans rfl; have hfz39_0 := blk_frozen BK101.out 0; have hfz39_1 := blk_frozen BK101.out 1; have hfz39_2 := blk_frozen BK101.out 2; have hfz39_3 := blk_frozen BK101.out 3; have hfz39_4 := blk_frozen BK101.out 4; have hfz39_5 := blk_frozen BK101.out 5) | ((with_reducible refine gate_callee (f := 22) rfl ?_); refine goesL_ (some 50) rfl rfl Tryd.func22 (by kernel_rfl) rfl #[.int .u8 a0_1] rfl (by (try simp only [List.map_toArray, List.map_cons, List.map_nil]); first | done | rfl | (simp only [List.length_drop, List.length_take]; rfl)) ?_; (with_reducible refine (spec_rustBits.calls k a0_1 t102 true _ A26.out).mono ?_); rintro e w' ⟨rfl, ⟨nd, rfl⟩⟩; refine ⟨_, rfl, ?_⟩))
              go_ret
              exact ⟨by first | rfl | (simp [errW_none, errW_some] <;> rfl) | (simp [*, errW_none, errW_some] <;> rfl), by repeat (first | (with_reducible first | exact HB.out | apply below_alloc | apply pw_below_drewN | apply below_drew1 | refine below_set ?_ GE101.out) | exact HB.out)⟩
          · replace c31 := Bool.eq_false_iff.mpr c31
            subst c31
            have H1 : (if 0 ≤ (IntKind.u64.wrap (t102 - 1)) then (some (decide (a0_3 < (shl .u64 1 (IntKind.u64.wrap (t102 - 1)))))) else (none)) = some r := by rw [if_neg (show ¬ (false = true) by decide)] at H; exact H
            clear H
            have H := H1
            clear H1
            obtain ⟨ji40, hji40⟩ : ∃ j_ : Int, (IntKind.u64.wrap (t102 - 1)) = j_ := ⟨_, rfl⟩
            replace H : (if 0 ≤ (ji40) then (some (decide (a0_3 < (shl .u64 1 (ji40))))) else (none)) = some r := by first | (rw [hji40] at H; exact H) | (simp only [hji40] at H ⊢; exact H)
            (try rw [hji40] at A26)
            by_cases c41 : 0 ≤ (ji40)
            · rw [if_pos c41] at H
              have c41b0 := eq_true c41
              have c41b1 : decide (0 ≤ (ji40)) = true := decide_eq_true c41
              clear c41
              obtain ⟨ji42, hji42⟩ : ∃ j_ : Int, (shl .u64 1 (ji40)) = j_ := ⟨_, rfl⟩
              replace H : (some (decide (a0_3 < (ji42)))) = some r := by first | (rw [hji42] at H; exact H) | (simp only [hji42] at H ⊢; exact H)
              (try rw [hji42] at A26)
              have hji42_ : (IntKind.u64.wrap (1 * 2 ^ min (ji40).toNat 64)) = ji42 := hji42
              have hji42z : (ji40) ≤ 64 → (IntKind.u64.wrap (1 * 2 ^ (ji40).toNat)) = ji42 := shl_small hji42
              have hji42u : (IntKind.u64.wrap (2 ^ min (ji40).toNat 64)) = ji42 := by have h_ := hji42_; rw [Int.one_mul] at h_; exact h_
              have hji42v : (ji40) ≤ 64 → (IntKind.u64.wrap (2 ^ (ji40).toNat)) = ji42 := fun hle_ => by have h_ := hji42z hle_; rw [Int.one_mul] at h_; exact h_
              obtain rfl := Option.some.inj H
              go_enter Tryd.func25, Tryd.ntmps25
              go_wp2_with (first | ((with_reducible refine gate_dst (N := 1) rfl ?_); refine box_event ?hg (N := 1) ?hd (cs := #[.int .i64 a0_0, .int .u8 a0_1, .string a0_2, .int .u64 a0_3, .bool false, .slice A0_5 l0_5.length c0_5]) (t := 25) ?hr ?_; (case hd => rfl); (case hg => rfl); (case hr => first | (go_simp; done) | (go_simp; rfl)); intro gb101 hg w43 hbox hb; have n0_ := Aside0.mk (below_step (by repeat (first | (with_reducible first | exact HB.out | apply below_alloc | apply pw_below_drewN | apply below_drew1) | exact HB.out)) hb); have n1_ := Aside0.mk (hbox); have n2_ := Aside0.mk ((by rw [hg]; exact (below_size (by repeat (first | (with_reducible first | exact HB.out | apply below_alloc | apply pw_below_drewN | apply below_drew1) | exact HB.out))) : w.heap.size ≤ gb101)); have n3_ := Aside0.mk ((by rw [hg]; exact (below_size (by repeat (first | (with_reducible first | exact HB.out | apply below_alloc | apply pw_below_drewN | apply below_drew1) | exact HB.out))) : w.heap.size ≤ gb101)); clear HB; have HB := n0_; have BK101 := n1_; have GW101 := n2_; have GE101 := n3_; clear n0_ n1_ n2_ n3_; clear hb hbox hg; have hcz44_0 : w43.cell? ⟨gb101, 0, none⟩ = some (.int .i64 a0_0) := (blk_cell BK101.out 0).trans rfl; have hcz44_1 : w43.cell? ⟨gb101, 1, none⟩ = some (.int .u8 a0_1) := (blk_cell BK101.out 1).trans rfl; have hcz44_2 : w43.cell? ⟨gb101, 2, none⟩ = some (.string a0_2) := (blk_cell BK101.out 2).trans rfl; have hcz44_3 : w43.cell? ⟨gb101, 3, none⟩ = some (.int .u64 a0_3) := (blk_cell BK101.out 3).trans rfl; have hcz44_4 : w43.cell? ⟨gb101, 4, none⟩ = some (.bool false) := (blk_cell BK101.out 4).trans rfl; have hcz44_5 : w43.cell? ⟨gb101, 5, none⟩ = some (.slice A0_5 l0_5.length c0_5) := (blk_cell BK101.out 5).trans rfl; have hfz44_0 := blk_frozen BK101.out 0; have hfz44_1 := blk_frozen BK101.out 1; have hfz44_2 := blk_frozen BK101.out 2; have hfz44_3 := blk_frozen BK101.out 3; have hfz44_4 := blk_frozen BK101.out 4; have hfz44_5 := blk_frozen BK101.out 5) | ((with_reducible refine gate_callee (f := 22) rfl ?_); refine goesL_ (some 50) rfl rfl Tryd.func22 (by kernel_rfl) rfl #[.int .u8 a0_1] rfl (by (try simp only [List.map_toArray, List.map_cons, List.map_nil]); first | done | rfl | (simp only [List.length_drop, List.length_take]; rfl)) ?_; (with_reducible refine (spec_rustBits.calls k a0_1 t102 true _ A26.out).mono ?_); rintro e w' ⟨rfl, ⟨nd, rfl⟩⟩; refine ⟨_, rfl, ?_⟩))
              go_ret
              exact ⟨by first | rfl | (simp [errW_none, errW_some] <;> rfl) | (simp only [← hji40, ← hji42]; first | rfl | (simp [errW_none, errW_some] <;> rfl)) | (simp [*, errW_none, errW_some] <;> rfl), by repeat (first | (with_reducible first | exact HB.out | apply below_alloc | apply pw_below_drewN | apply below_drew1 | refine below_set ?_ GE101.out) | exact HB.out)⟩
            · rw [if_neg c41] at H
              exact absurd H (by simp)
        · replace c30 := Bool.eq_false_iff.mpr c30
          subst c30
          have H1 : (if a0_4 = true then (some false) else (if t102 = 64 then (some true) else (if 0 ≤ t102 then (some (decide (a0_3 < (shl .u64 1 t102)))) else (none)))) = some r := by rw [if_neg (show ¬ (false = true) by decide)] at H; exact H
          clear H
          have H := H1
          clear H1
          by_cases c45 : a0_4 = true
          · subst c45
            have H1 : (some false) = some r := by rw [if_pos rfl] at H; exact H
            clear H
            have H := H1
            clear H1
            obtain rfl := Option.some.inj H
            go_enter Tryd.func25, Tryd.ntmps25
            go_wp2_with (first | ((with_reducible refine gate_dst (N := 1) rfl ?_); refine box_event ?hg (N := 1) ?hd (cs := #[.int .i64 a0_0, .int .u8 a0_1, .string a0_2, .int .u64 a0_3, .bool true, .slice A0_5 l0_5.length c0_5]) (t := 25) ?hr ?_; (case hd => rfl); (case hg => rfl); (case hr => first | (go_simp; done) | (go_simp; rfl)); intro gb101 hg w46 hbox hb; have n0_ := Aside0.mk (below_step (by repeat (first | (with_reducible first | exact HB.out | apply below_alloc | apply pw_below_drewN | apply below_drew1) | exact HB.out)) hb); have n1_ := Aside0.mk (hbox); have n2_ := Aside0.mk ((by rw [hg]; exact (below_size (by repeat (first | (with_reducible first | exact HB.out | apply below_alloc | apply pw_below_drewN | apply below_drew1) | exact HB.out))) : w.heap.size ≤ gb101)); have n3_ := Aside0.mk ((by rw [hg]; exact (below_size (by repeat (first | (with_reducible first | exact HB.out | apply below_alloc | apply pw_below_drewN | apply below_drew1) | exact HB.out))) : w.heap.size ≤ gb101)); clear HB; have HB := n0_; have BK101 := n1_; have GW101 := n2_; have GE101 := n3_; clear n0_ n1_ n2_ n3_; clear hb hbox hg; have hcz47_0 : w46.cell? ⟨gb101, 0, none⟩ = some (.int .i64 a0_0) := (blk_cell BK101.out 0).trans rfl; have hcz47_1 : w46.cell? ⟨gb101, 1, none⟩ = some (.int .u8 a0_1) := (blk_cell BK101.out 1).trans rfl; have hcz47_2 : w46.cell? ⟨gb101, 2, none⟩ = some (.string a0_2) := (blk_cell BK101.out 2).trans rfl; have hcz47_3 : w46.cell? ⟨gb101, 3, none⟩ = some (.int .u64 a0_3) := (blk_cell BK101.out 3).trans rfl; have hcz47_4 : w46.cell? ⟨gb101, 4, none⟩ = some (.bool true) := (blk_cell BK101.out 4).trans rfl; have hcz47_5 : w46.cell? ⟨gb101, 5, none⟩ = some (.slice A0_5 l0_5.length c0_5) := (blk_cell BK101.out 5).trans rfl; have hfz47_0 := blk_frozen BK101.out 0; have hfz47_1 := blk_frozen BK101.out 1; have hfz47_2 := blk_frozen BK101.out 2; have hfz47_3 := blk_frozen BK101.out 3; have hfz47_4 := blk_frozen BK101.out 4; have hfz47_5 := blk_frozen BK101.out 5) | ((with_reducible refine gate_callee (f := 22) rfl ?_); refine goesL_ (some 50) rfl rfl Tryd.func22 (by kernel_rfl) rfl #[.int .u8 a0_1] rfl (by (try simp only [List.map_toArray, List.map_cons, List.map_nil]); first | done | rfl | (simp only [List.length_drop, List.length_take]; rfl)) ?_; (with_reducible refine (spec_rustBits.calls k a0_1 t102 false _ A26.out).mono ?_); rintro e w' ⟨rfl, ⟨nd, rfl⟩⟩; refine ⟨_, rfl, ?_⟩))
            go_ret
            exact ⟨by first | rfl | (simp [errW_none, errW_some] <;> rfl) | (simp [*, errW_none, errW_some] <;> rfl), by repeat (first | (with_reducible first | exact HB.out | apply below_alloc | apply pw_below_drewN | apply below_drew1 | refine below_set ?_ GE101.out) | exact HB.out)⟩
          · replace c45 := Bool.eq_false_iff.mpr c45
            subst c45
            have H1 : (if t102 = 64 then (some true) else (if 0 ≤ t102 then (some (decide (a0_3 < (shl .u64 1 t102)))) else (none))) = some r := by rw [if_neg (show ¬ (false = true) by decide)] at H; exact H
            clear H
            have H := H1
            clear H1
            by_cases c48 : t102 = 64
            · rw [if_pos c48] at H
              have c48b0 : (t102 == 64) = true := beq_iff_eq.mpr c48
              have c48b1 : (t102 != 64) = false := bne_eq_false_iff_eq.mpr c48
              clear c48
              obtain rfl := Option.some.inj H
              go_enter Tryd.func25, Tryd.ntmps25
              go_wp2_with (first | ((with_reducible refine gate_dst (N := 1) rfl ?_); refine box_event ?hg (N := 1) ?hd (cs := #[.int .i64 a0_0, .int .u8 a0_1, .string a0_2, .int .u64 a0_3, .bool false, .slice A0_5 l0_5.length c0_5]) (t := 25) ?hr ?_; (case hd => rfl); (case hg => rfl); (case hr => first | (go_simp; done) | (go_simp; rfl)); intro gb101 hg w49 hbox hb; have n0_ := Aside0.mk (below_step (by repeat (first | (with_reducible first | exact HB.out | apply below_alloc | apply pw_below_drewN | apply below_drew1) | exact HB.out)) hb); have n1_ := Aside0.mk (hbox); have n2_ := Aside0.mk ((by rw [hg]; exact (below_size (by repeat (first | (with_reducible first | exact HB.out | apply below_alloc | apply pw_below_drewN | apply below_drew1) | exact HB.out))) : w.heap.size ≤ gb101)); have n3_ := Aside0.mk ((by rw [hg]; exact (below_size (by repeat (first | (with_reducible first | exact HB.out | apply below_alloc | apply pw_below_drewN | apply below_drew1) | exact HB.out))) : w.heap.size ≤ gb101)); clear HB; have HB := n0_; have BK101 := n1_; have GW101 := n2_; have GE101 := n3_; clear n0_ n1_ n2_ n3_; clear hb hbox hg; have hcz50_0 : w49.cell? ⟨gb101, 0, none⟩ = some (.int .i64 a0_0) := (blk_cell BK101.out 0).trans rfl; have hcz50_1 : w49.cell? ⟨gb101, 1, none⟩ = some (.int .u8 a0_1) := (blk_cell BK101.out 1).trans rfl; have hcz50_2 : w49.cell? ⟨gb101, 2, none⟩ = some (.string a0_2) := (blk_cell BK101.out 2).trans rfl; have hcz50_3 : w49.cell? ⟨gb101, 3, none⟩ = some (.int .u64 a0_3) := (blk_cell BK101.out 3).trans rfl; have hcz50_4 : w49.cell? ⟨gb101, 4, none⟩ = some (.bool false) := (blk_cell BK101.out 4).trans rfl; have hcz50_5 : w49.cell? ⟨gb101, 5, none⟩ = some (.slice A0_5 l0_5.length c0_5) := (blk_cell BK101.out 5).trans rfl; have hfz50_0 := blk_frozen BK101.out 0; have hfz50_1 := blk_frozen BK101.out 1; have hfz50_2 := blk_frozen BK101.out 2; have hfz50_3 := blk_frozen BK101.out 3; have hfz50_4 := blk_frozen BK101.out 4; have hfz50_5 := blk_frozen BK101.out 5) | ((with_reducible refine gate_callee (f := 22) rfl ?_); refine goesL_ (some 50) rfl rfl Tryd.func22 (by kernel_rfl) rfl #[.int .u8 a0_1] rfl (by (try simp only [List.map_toArray, List.map_cons, List.map_nil]); first | done | rfl | (simp only [List.length_drop, List.length_take]; rfl)) ?_; (with_reducible refine (spec_rustBits.calls k a0_1 t102 false _ A26.out).mono ?_); rintro e w' ⟨rfl, ⟨nd, rfl⟩⟩; refine ⟨_, rfl, ?_⟩))
              go_ret
              exact ⟨by first | rfl | (simp [errW_none, errW_some] <;> rfl) | (simp [*, errW_none, errW_some] <;> rfl), by repeat (first | (with_reducible first | exact HB.out | apply below_alloc | apply pw_below_drewN | apply below_drew1 | refine below_set ?_ GE101.out) | exact HB.out)⟩
            · rw [if_neg c48] at H
              have c48b0 : (t102 == 64) = false := beq_eq_false_iff_ne.mpr c48
              have c48b1 : (t102 != 64) = true := bne_iff_ne.mpr c48
              by_cases c51 : 0 ≤ t102
              · rw [if_pos c51] at H
                have c51b0 := eq_true c51
                have c51b1 : decide (0 ≤ t102) = true := decide_eq_true c51
                clear c51
                obtain ⟨ji52, hji52⟩ : ∃ j_ : Int, (shl .u64 1 t102) = j_ := ⟨_, rfl⟩
                replace H : (some (decide (a0_3 < (ji52)))) = some r := by first | (rw [hji52] at H; exact H) | (simp only [hji52] at H ⊢; exact H)
                (try rw [hji52] at A26)
                have hji52_ : (IntKind.u64.wrap (1 * 2 ^ min t102.toNat 64)) = ji52 := hji52
                have hji52z : t102 ≤ 64 → (IntKind.u64.wrap (1 * 2 ^ t102.toNat)) = ji52 := shl_small hji52
                have hji52u : (IntKind.u64.wrap (2 ^ min t102.toNat 64)) = ji52 := by have h_ := hji52_; rw [Int.one_mul] at h_; exact h_
                have hji52v : t102 ≤ 64 → (IntKind.u64.wrap (2 ^ t102.toNat)) = ji52 := fun hle_ => by have h_ := hji52z hle_; rw [Int.one_mul] at h_; exact h_
                obtain rfl := Option.some.inj H
                go_enter Tryd.func25, Tryd.ntmps25
                go_wp2_with (first | ((with_reducible refine gate_dst (N := 1) rfl ?_); refine box_event ?hg (N := 1) ?hd (cs := #[.int .i64 a0_0, .int .u8 a0_1, .string a0_2, .int .u64 a0_3, .bool false, .slice A0_5 l0_5.length c0_5]) (t := 25) ?hr ?_; (case hd => rfl); (case hg => rfl); (case hr => first | (go_simp; done) | (go_simp; rfl)); intro gb101 hg w53 hbox hb; have n0_ := Aside0.mk (below_step (by repeat (first | (with_reducible first | exact HB.out | apply below_alloc | apply pw_below_drewN | apply below_drew1) | exact HB.out)) hb); have n1_ := Aside0.mk (hbox); have n2_ := Aside0.mk ((by rw [hg]; exact (below_size (by repeat (first | (with_reducible first | exact HB.out | apply below_alloc | apply pw_below_drewN | apply below_drew1) | exact HB.out))) : w.heap.size ≤ gb101)); have n3_ := Aside0.mk ((by rw [hg]; exact (below_size (by repeat (first | (with_reducible first | exact HB.out | apply below_alloc | apply pw_below_drewN | apply below_drew1) | exact HB.out))) : w.heap.size ≤ gb101)); clear HB; have HB := n0_; have BK101 := n1_; have GW101 := n2_; have GE101 := n3_; clear n0_ n1_ n2_ n3_; clear hb hbox hg; have hcz54_0 : w53.cell? ⟨gb101, 0, none⟩ = some (.int .i64 a0_0) := (blk_cell BK101.out 0).trans rfl; have hcz54_1 : w53.cell? ⟨gb101, 1, none⟩ = some (.int .u8 a0_1) := (blk_cell BK101.out 1).trans rfl; have hcz54_2 : w53.cell? ⟨gb101, 2, none⟩ = some (.string a0_2) := (blk_cell BK101.out 2).trans rfl; have hcz54_3 : w53.cell? ⟨gb101, 3, none⟩ = some (.int .u64 a0_3) := (blk_cell BK101.out 3).trans rfl; have hcz54_4 : w53.cell? ⟨gb101, 4, none⟩ = some (.bool false) := (blk_cell BK101.out 4).trans rfl; have hcz54_5 : w53.cell? ⟨gb101, 5, none⟩ = some (.slice A0_5 l0_5.length c0_5) := (blk_cell BK101.out 5).trans rfl; have hfz54_0 := blk_frozen BK101.out 0; have hfz54_1 := blk_frozen BK101.out 1; have hfz54_2 := blk_frozen BK101.out 2; have hfz54_3 := blk_frozen BK101.out 3; have hfz54_4 := blk_frozen BK101.out 4; have hfz54_5 := blk_frozen BK101.out 5) | ((with_reducible refine gate_callee (f := 22) rfl ?_); refine goesL_ (some 50) rfl rfl Tryd.func22 (by kernel_rfl) rfl #[.int .u8 a0_1] rfl (by (try simp only [List.map_toArray, List.map_cons, List.map_nil]); first | done | rfl | (simp only [List.length_drop, List.length_take]; rfl)) ?_; (with_reducible refine (spec_rustBits.calls k a0_1 t102 false _ A26.out).mono ?_); rintro e w' ⟨rfl, ⟨nd, rfl⟩⟩; refine ⟨_, rfl, ?_⟩))
                go_ret
                exact ⟨by first | rfl | (simp [errW_none, errW_some] <;> rfl) | (simp only [← hji52]; first | rfl | (simp [errW_none, errW_some] <;> rfl)) | (simp [*, errW_none, errW_some] <;> rfl), by repeat (first | (with_reducible first | exact HB.out | apply below_alloc | apply pw_below_drewN | apply below_drew1 | refine below_set ?_ GE101.out) | exact HB.out)⟩
              · rw [if_neg c51] at H
                exact absurd H (by simp)

-- NOT PRINTED: function 13 (spec_rustReader_constantHere)

end Go.Proofs.YtaegllbokgjoeaaDoor.PconstantHere
