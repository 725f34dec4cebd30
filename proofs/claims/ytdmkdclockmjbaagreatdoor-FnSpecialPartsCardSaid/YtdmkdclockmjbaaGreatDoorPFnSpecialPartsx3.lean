/- Written by a program of this session (wip/tools/myprint.py) with the kit's print: contracts of the functions that one statement reaches; functions that are proved by hand are taken as printed. Conditions: none. -/
import Derived.Test.YtdmkdclockmjbaaGreatDoorPFnSpecialPartsx0
import Derived.Test.YtdmkdclockmjbaaGreatDoorPFnSpecialPartsx1
import Derived.Test.YtdmkdclockmjbaaGreatDoorPFnSpecialPartsx2
namespace Go.Proofs.YtdmkdclockmjbaaGreatDoor.PFnSpecialParts
open Go.RowKit Go.Proofs.YtdmkdclockmjbaaGreatDoorW.PrintWords Go.Proofs.YtdmkdclockmjbaaGreatDoorW.PrintLast Go.Proofs.YtdmkdclockmjbaaGreatDoorW.PrintMore
attribute [local go_sem] max2_int min2_int max_two min_two max_three min_three max_four min_four   -- for this text's walks alone
set_option linter.unusedVariables false
set_option linter.unusedSimpArgs false

/-! ### laws_idSpecial: function 25 -/
def laws_idSpecial.l0 : Nat → List Int → List Int → List (S43) → List (List Int) → Int → Int → Option ((List (S43)))
  | 0, _, _, _, _, _, _ => none
  | k + 1, x1, x2, x7, x12, x13, x14 => if x14 < x13 then (if 0 ≤ x14 then (if x14 < (x12.length : Int) then (if x14 < 100 then ((laws_idSpace.f x1 x14 65).bind fun t135 => ((laws_idDis.f x2 x14).bind fun t136 => (if ((rd_L1 x12 x14).length : Int) > 0 then (if 0 ≤ (mn ((rd_L1 x12 x14).length : Int) 1000) then (if (mn ((rd_L1 x12 x14).length : Int) 1000) ≤ ((rd_L1 x12 x14).length : Int) then ((spec_AnPlain.f k ((rd_L1 x12 x14).take ((mn ((rd_L1 x12 x14).length : Int) 1000) : Int).toNat)).bind fun t139 => (if x7.length < 4398046511104 then (laws_idSpecial.l0 k x1 x2 (x7 ++ [(⟨t135, t139, t136⟩ : S43)]) x12 x13 (wrap64 (x14 + 1))) else (none))) else (none)) else (none)) else (if x7.length < 4398046511104 then (laws_idSpecial.l0 k x1 x2 (x7 ++ [(⟨t135, (⟨#[]⟩ : ByteArray), t136⟩ : S43)]) x12 x13 (wrap64 (x14 + 1))) else (none))))) else (laws_idSpecial.l0 k x1 x2 x7 x12 x13 (wrap64 (x14 + 1)))) else (none)) else (none)) else (some x7)
def laws_idSpecial.f (k : Nat) (l0 : List (List Int)) (l1 : List Int) (l2 : List Int) : Option ((List (S43))) := laws_idSpecial.l0 k l1 l2 (([] : List (S43))) l0 (l0.length : Int) 0
theorem laws_idSpecial.mono_l : ∀ k, (∀ y0 y1 y2 y3 y4 y5, LeO (laws_idSpecial.l0 k y0 y1 y2 y3 y4 y5) (laws_idSpecial.l0 (k + 1) y0 y1 y2 y3 y4 y5))
  | 0 => fun _ _ _ _ _ _ r h => by simp [laws_idSpecial.l0] at h
  | k + 1 => by
    have ih0 := laws_idSpecial.mono_l k
    · intro y0 y1 y2 y3 y4 y5
      unfold laws_idSpecial.l0
      repeat' first
      | (with_reducible exact ih0 _ _ _ _ _ _)
      | (with_reducible exact spec_AnPlain.mono _ _)
      | (with_reducible exact LeO.refl _)
      | (with_reducible exact LeO.none _)
      | (with_reducible refine LeO.ite ?_ ?_)
      | (with_reducible refine LeO.bind ?_ (fun _ => ?_))
      | exact ih0 _ _ _ _ _ _
      | exact spec_AnPlain.mono _ _
      | exact LeO.none _
      | refine LeO.ite ?_ ?_
      | refine LeO.bind ?_ (fun _ => ?_)
theorem laws_idSpecial.mono : ∀ a0 a1 a2 k, LeO (laws_idSpecial.f k a0 a1 a2) (laws_idSpecial.f (k + 1) a0 a1 a2) := by
  intro a0 a1 a2 k
  have ih0 := laws_idSpecial.mono_l k
  unfold laws_idSpecial.f
  repeat' first
      | (with_reducible exact ih0 _ _ _ _ _ _)
      | (with_reducible exact spec_AnPlain.mono _ _)
      | (with_reducible exact LeO.refl _)
      | (with_reducible exact LeO.none _)
      | (with_reducible refine LeO.ite ?_ ?_)
      | (with_reducible refine LeO.bind ?_ (fun _ => ?_))
      | exact ih0 _ _ _ _ _ _
      | exact spec_AnPlain.mono _ _
      | exact LeO.none _
      | refine LeO.ite ?_ ?_
      | refine LeO.bind ?_ (fun _ => ?_)
set_option maxHeartbeats 8000000 in
set_option maxRecDepth 100000 in
theorem laws_idSpecial.calls (k : Nat) (A0 : Option Addr) (c0 : Nat) (l0 : List (List Int)) (A1 : Option Addr) (c1 : Nat) (l1 : List Int) (A2 : Option Addr) (c2 : Nat) (l2 : List Int) (r : List (S43)) (w : World) (hr0 : Kd.C (Kd.slice 5 (Kd.int .u8)) w A0 l0.length l0) (hc0 : l0.length ≤ c0) (hr1 : Kd.C (Kd.int .u8) w A1 l1.length l1) (hc1 : l1.length ≤ c1) (hr2 : Kd.C (Kd.int .i64) w A2 l2.length l2) (hc2 : l2.length ≤ c2) (h : laws_idSpecial.f k l0 l1 l2 = some r) :
    Calls Tryz.prog 25 #[.slice A0 l0.length c0, .slice A1 l1.length c1, .slice A2 l2.length c2] w fun e w' => ∃ v0_ : Value, e = .returned (v0_) ∧ Kd.R k43 43 w' w.heap.size (fun _ => True) v0_ r ∧ Below w.heap.size w w' := by
  have hu43 := Tryz.underlying43
  have HR0 := Aside0.mk hr0
  have HC0 := Aside0.mk hc0
  clear hr0 hc0
  have HR1 := Aside0.mk hr1
  have HC1 := Aside0.mk hc1
  clear hr1 hc1
  have HR2 := Aside0.mk hr2
  have HC2 := Aside0.mk hc2
  clear hr2 hc2
  have HB := Aside0.mk (Below.refl w.heap.size w)
  have H : (laws_idSpecial.l0 k l1 l2 (([] : List (S43))) l0 (l0.length : Int) 0) = some r := h
  clear h
  obtain ⟨y131, hy131⟩ : ∃ y_ : List (S43), y_ = (([] : List (S43))) := ⟨_, rfl⟩
  replace H : (laws_idSpecial.l0 k l1 l2 y131 l0 (l0.length : Int) 0) = some r := by first | (rw [hy131]; with_reducible exact H) | (have H2_ := (Option.bind_some _ _).symm.trans H; rw [hy131]; with_reducible exact H2_) | (have H2_ := (Option.bind_some _ _).symm.trans H; with_reducible exact H2_) | with_reducible exact H | (rw [hy131]; exact H) | exact H
  have Ny131 := Aside0.mk hy131
  clear hy131
  have H' := Aside0.mk H
  clear H
  go_enter Tryz.func25, Tryz.ntmps25
  go_wp2_with (first | (go_at_call 15; refine (idCut_at _ _ _ _ _ _ (by assumption) (by assumption)).mono ?_; rintro e w_ ⟨rfl, rfl⟩) | ((with_reducible refine gate_dst (N := 11) rfl ?_); refine Kd.R_lit k43 _ 43 ?hg (N := 11) ?hd (xs := ([] : List (S43))) (inner := []) (ok := fun _ => True) (okp := fun _ => True) ?hr ?hp (fun _ hk => hk) trivial (Below.refl _ _) (Nat.le_refl _) (by simp) ?_; (case hd => rfl); (case hg => rfl); (case hr => first | (go_simp; done) | (go_simp; rfl)); (case hp => exact (Reps.none _ _)); intro v132 w4 ho5 hb hg_ hnew_; clear hg_ hnew_; (first | rw [← Ny131.out] at ho5 | (simp only [Int.reduceToNat] at ho5; rw [← Ny131.out] at ho5)); have n0_ := Aside0.mk (Kd.R_lower ho5 (below_size (by repeat (first | (with_reducible first | exact HB.out | apply below_alloc | apply pw_below_drewN | apply below_drew1) | exact HB.out)))); have n1_ := Aside0.mk (below_step (by repeat (first | (with_reducible first | exact HB.out | apply below_alloc | apply pw_below_drewN | apply below_drew1) | exact HB.out)) hb); clear HB; have HO133 := n0_; have HB := n1_; clear n0_ n1_; clear hb ho5))
  go_loopg [7, 14] k (fun kq v7 v14 w' => ∃ (x7_1 : List (S43)) (x14_1 : Int), v14 = .int .i64 x14_1 ∧ Aside0 (laws_idSpecial.l0 kq l1 l2 x7_1 l0 (l0.length : Int) x14_1 = some r) ∧ Aside0 (kq ≤ k) ∧ Aside0 (Kd.R k43 43 w' w.heap.size (fun _ => True) v7 x7_1) ∧ Aside0 (Below w.heap.size w w'))
  case atStart => exact ⟨(y131), (0), (by first | rfl | (simp; done) | (simp [*]; done)), H', ⟨Nat.le_refl _⟩, ⟨by (with_reducible repeat (first | apply Kd.R_alloc | apply Kd.R_drewN | apply Kd.R_drew)); exact HO133.out⟩, ⟨by repeat (first | (with_reducible first | exact HB.out | apply below_alloc | apply pw_below_drewN | apply below_drew1) | exact HB.out)⟩⟩
  case round =>
    clear H'
    try clear c1
    try clear c2
    try clear p2
    obtain ⟨x7_1, x14_1, rfl, HA, HK1, HO_7, HB⟩ := hrel
    cases gk with
    | zero => exact absurd HA.out (by simp [laws_idSpecial.l0])
    | succ k1 =>
      have H := HA.out
      clear HA
      simp only [laws_idSpecial.l0] at H
      by_cases c6 : x14_1 < (l0.length : Int)
      · rw [if_pos c6] at H
        have c6b0 : decide (x14_1 < (l0.length : Int)) = true := decide_eq_true c6
        clear c6
        by_cases c7 : 0 ≤ x14_1
        · rw [if_pos c7] at H
          have c7b0 : decide (0 ≤ x14_1) = true := decide_eq_true c7
          clear c7
          by_cases c8 : x14_1 < (l0.length : Int)
          · rw [if_pos c8] at H
            have c8b0 : decide (x14_1 < (l0.length : Int)) = true := decide_eq_true c8
            clear c8
            by_cases c9 : x14_1 < 100
            · rw [if_pos c9] at H
              have c9b0 : decide (x14_1 < 100) = true := decide_eq_true c9
              clear c9
              replace H := Option.bind_eq_some_iff.mp H
              obtain ⟨t135, A100, H⟩ := H
              replace H : ((laws_idDis.f l2 x14_1).bind fun t136 => (if ((rd_L1 l0 x14_1).length : Int) > 0 then (if 0 ≤ (mn ((rd_L1 l0 x14_1).length : Int) 1000) then (if (mn ((rd_L1 l0 x14_1).length : Int) 1000) ≤ ((rd_L1 l0 x14_1).length : Int) then ((spec_AnPlain.f k1 ((rd_L1 l0 x14_1).take ((mn ((rd_L1 l0 x14_1).length : Int) 1000) : Int).toNat)).bind fun t139 => (if x7_1.length < 4398046511104 then (laws_idSpecial.l0 k1 l1 l2 (x7_1 ++ [(⟨t135, t139, t136⟩ : S43)]) l0 (l0.length : Int) (wrap64 (x14_1 + 1))) else (none))) else (none)) else (none)) else (if x7_1.length < 4398046511104 then (laws_idSpecial.l0 k1 l1 l2 (x7_1 ++ [(⟨t135, (⟨#[]⟩ : ByteArray), t136⟩ : S43)]) l0 (l0.length : Int) (wrap64 (x14_1 + 1))) else (none)))) = some r := H
              have A10 := Aside0.mk A100
              clear A100
              replace H := Option.bind_eq_some_iff.mp H
              obtain ⟨t136, A110, H⟩ := H
              replace H : (if ((rd_L1 l0 x14_1).length : Int) > 0 then (if 0 ≤ (mn ((rd_L1 l0 x14_1).length : Int) 1000) then (if (mn ((rd_L1 l0 x14_1).length : Int) 1000) ≤ ((rd_L1 l0 x14_1).length : Int) then ((spec_AnPlain.f k1 ((rd_L1 l0 x14_1).take ((mn ((rd_L1 l0 x14_1).length : Int) 1000) : Int).toNat)).bind fun t139 => (if x7_1.length < 4398046511104 then (laws_idSpecial.l0 k1 l1 l2 (x7_1 ++ [(⟨t135, t139, t136⟩ : S43)]) l0 (l0.length : Int) (wrap64 (x14_1 + 1))) else (none))) else (none)) else (none)) else (if x7_1.length < 4398046511104 then (laws_idSpecial.l0 k1 l1 l2 (x7_1 ++ [(⟨t135, (⟨#[]⟩ : ByteArray), t136⟩ : S43)]) l0 (l0.length : Int) (wrap64 (x14_1 + 1))) else (none))) = some r := H
              have A11 := Aside0.mk A110
              clear A110
              by_cases c12 : ((rd_L1 l0 x14_1).length : Int) > 0
              · rw [if_pos c12] at H
                have c12b0 : decide (0 < ((rd_L1 l0 x14_1).length : Int)) = true := decide_eq_true c12
                have c12b1 : decide (0 < (rd_L1 l0 x14_1).length) = true := decide_eq_true (by omega)
                clear c12
                obtain ⟨ji13, hji13⟩ : ∃ j_ : Int, (mn ((rd_L1 l0 x14_1).length : Int) 1000) = j_ := ⟨_, rfl⟩
                replace H : (if 0 ≤ (ji13) then (if (ji13) ≤ ((rd_L1 l0 x14_1).length : Int) then ((spec_AnPlain.f k1 ((rd_L1 l0 x14_1).take ((ji13) : Int).toNat)).bind fun t139 => (if x7_1.length < 4398046511104 then (laws_idSpecial.l0 k1 l1 l2 (x7_1 ++ [(⟨t135, t139, t136⟩ : S43)]) l0 (l0.length : Int) (wrap64 (x14_1 + 1))) else (none))) else (none)) else (none)) = some r := by first | (rw [hji13] at H; exact H) | (simp only [hji13] at H ⊢; exact H)
                (try rw [hji13] at A10)
                (try rw [hji13] at A11)
                have hji13_ : (if 1000 < ((rd_L1 l0 x14_1).length : Int) then 1000 else ((rd_L1 l0 x14_1).length : Int)) = ji13 := hji13
                by_cases c14 : 0 ≤ (ji13)
                · rw [if_pos c14] at H
                  have c14b0 := eq_true c14
                  have c14b1 : decide (0 ≤ (ji13)) = true := decide_eq_true c14
                  clear c14
                  by_cases c15 : (ji13) ≤ ((rd_L1 l0 x14_1).length : Int)
                  · rw [if_pos c15] at H
                    have c15b0 := eq_true c15
                    have c15b1 : decide ((ji13) ≤ ((rd_L1 l0 x14_1).length : Int)) = true := decide_eq_true c15
                    clear c15
                    replace H := Option.bind_eq_some_iff.mp H
                    obtain ⟨t139, A160, H⟩ := H
                    replace H : (if x7_1.length < 4398046511104 then (laws_idSpecial.l0 k1 l1 l2 (x7_1 ++ [(⟨t135, t139, t136⟩ : S43)]) l0 (l0.length : Int) (wrap64 (x14_1 + 1))) else (none)) = some r := H
                    have A16 := Aside0.mk A160
                    clear A160
                    by_cases c17 : x7_1.length < 4398046511104
                    · rw [if_pos c17] at H
                      have LMc17 := Aside0.mk c17
                      clear c17
                      obtain ⟨y140, hy140⟩ : ∃ y_ : List (S43), y_ = (x7_1 ++ [(⟨t135, t139, t136⟩ : S43)]) := ⟨_, rfl⟩
                      replace H : (laws_idSpecial.l0 k1 l1 l2 y140 l0 (l0.length : Int) (wrap64 (x14_1 + 1))) = some r := by first | (rw [hy140]; with_reducible exact H) | (have H2_ := (Option.bind_some _ _).symm.trans H; rw [hy140]; with_reducible exact H2_) | (have H2_ := (Option.bind_some _ _).symm.trans H; with_reducible exact H2_) | with_reducible exact H | (rw [hy140]; exact H) | exact H
                      have Ny140 := Aside0.mk hy140
                      clear hy140
                      have H' := Aside0.mk H
                      clear H
                      have p134 : 0 ≤ (x14_1 : Int) := of_decide_eq_true (by first | (with_reducible assumption) | assumption)
                      have q134 : x14_1 < (l0.length : Int) := of_decide_eq_true (by first | (with_reducible assumption) | assumption)
                      obtain ⟨ad134, A134_0, c134_0, e134, hx134_0, hl134_0, hi134_0⟩ := at_L1 HR0.out x14_1 p134 q134
                      cases e134
                      replace hx134_0 := (HB.out.cell (World.block_lt_of_cell? w _ hx134_0)).trans hx134_0
                      have HR134_0 := Aside0.mk hi134_0
                      have HC134_0 := Aside0.mk hl134_0
                      clear hi134_0 hl134_0
                      replace p134 := eq_true p134
                      replace q134 := eq_true q134
                      go_wp2_with (first | (go_at_call 15; refine (idCut_at _ _ _ _ _ _ (by assumption) (by assumption)).mono ?_; rintro e w_ ⟨rfl, rfl⟩) | ((with_reducible refine gate_callee (f := 29) rfl ?_); refine goesL_ (some 23) rfl rfl Tryz.func29 (by kernel_rfl) rfl #[.slice A1 l1.length c1, .int .i64 x14_1, .int .u8 65] rfl (by (try simp only [List.map_toArray, List.map_cons, List.map_nil]); first | done | rfl | (simp only [List.length_drop, List.length_take]; rfl)) ?_; (with_reducible refine (laws_idSpace.calls _ _ l1 x14_1 65 t135 _ ?side1 ?side2 A10.out).mono ?_); (case side1 => repeat (first | exact (Kd.C_below HR1.out HB.out) | (with_reducible refine Kd.C_alloc ?_ _) | (with_reducible refine Kd.C_drewN ?_ _) | (with_reducible refine Kd.C_drew ?_))); (case side2 => exact HC1.out); rintro e w' ⟨rfl, ⟨nd, rfl⟩⟩; refine ⟨_, rfl, ?_⟩; (try (rw [drewN_self wr]; generalize hq_ : World.drewN wr _ = wr; have n0_ : Aside0 (Kd.R k43 43 wr w.heap.size (fun _ => True) u7 x7_1) := ⟨by rw [← hq_]; exact (by (with_reducible repeat (first | apply Kd.R_alloc | apply Kd.R_drewN | apply Kd.R_drew)); exact HO_7.out)⟩; have n1_ : Aside0 (Below w.heap.size w wr) := ⟨by rw [← hq_]; exact (by repeat (first | (with_reducible first | exact HB.out | apply below_alloc | apply pw_below_drewN | apply below_drew1) | exact HB.out))⟩; clear HO_7 HB hq_; have HO_7 := n0_; have HB := n1_; clear n0_ n1_))) | ((with_reducible refine gate_callee (f := 30) rfl ?_); refine goesL_ (some 26) rfl rfl Tryz.func30 (by kernel_rfl) rfl #[.slice A2 l2.length c2, .int .i64 x14_1] rfl (by (try simp only [List.map_toArray, List.map_cons, List.map_nil]); first | done | rfl | (simp only [List.length_drop, List.length_take]; rfl)) ?_; (with_reducible refine (laws_idDis.calls _ _ l2 x14_1 t136 _ ?side1 ?side2 A11.out).mono ?_); (case side1 => repeat (first | exact (Kd.C_below HR2.out HB.out) | (with_reducible refine Kd.C_alloc ?_ _) | (with_reducible refine Kd.C_drewN ?_ _) | (with_reducible refine Kd.C_drew ?_))); (case side2 => exact HC2.out); rintro e w' ⟨rfl, ⟨nd, rfl⟩⟩; refine ⟨_, rfl, ?_⟩; (try (rw [drewN_self wr]; generalize hq_ : World.drewN wr _ = wr; have n0_ : Aside0 (Kd.R k43 43 wr w.heap.size (fun _ => True) u7 x7_1) := ⟨by rw [← hq_]; exact (by (with_reducible repeat (first | apply Kd.R_alloc | apply Kd.R_drewN | apply Kd.R_drew)); exact HO_7.out)⟩; have n1_ : Aside0 (Below w.heap.size w wr) := ⟨by rw [← hq_]; exact (by repeat (first | (with_reducible first | exact HB.out | apply below_alloc | apply pw_below_drewN | apply below_drew1) | exact HB.out))⟩; clear HO_7 HB hq_; have HO_7 := n0_; have HB := n1_; clear n0_ n1_))) | ((with_reducible refine gate_dst (N := 10) rfl ?_); refine box_event ?hg (N := 10) ?hd (cs := #[.int .u8 0, .string (⟨#[]⟩ : ByteArray), .int .u64 0]) (t := 43) ?hr ?_; (case hd => rfl); (case hg => rfl); (case hr => first | (go_simp; done) | (go_simp; rfl)); intro gb137 hg w18 hbox hb; have n0_ := Aside0.mk (Kd.R_below (Kd.R_elderB (by (with_reducible repeat (first | apply Kd.R_alloc | apply Kd.R_drewN | apply Kd.R_drew)); exact HO_7.out) gb137 (Nat.le_of_eq hg.symm)) hb); have n1_ := Aside0.mk (below_step (by repeat (first | (with_reducible first | exact HB.out | apply below_alloc | apply pw_below_drewN | apply below_drew1) | exact HB.out)) hb); have n2_ := Aside0.mk (hbox); have n3_ := Aside0.mk ((by rw [hg]; exact (below_size (by repeat (first | (with_reducible first | exact HB.out | apply below_alloc | apply pw_below_drewN | apply below_drew1) | exact HB.out))) : w.heap.size ≤ gb137)); have n4_ := Aside0.mk ((by rw [hg]; exact (below_size (by repeat (first | (with_reducible first | exact HB.out | apply below_alloc | apply pw_below_drewN | apply below_drew1) | exact HB.out))) : w.heap.size ≤ gb137)); clear HO_7; clear HB; have HO_7 := n0_; have HB := n1_; have BK137 := n2_; have GW137 := n3_; have GE137 := n4_; clear n0_ n1_ n2_ n3_ n4_; clear hb hbox hg; have hcz19_0 : w18.cell? ⟨gb137, 0, none⟩ = some (.int .u8 0) := (blk_cell BK137.out 0).trans rfl; have hcz19_1 : w18.cell? ⟨gb137, 1, none⟩ = some (.string (⟨#[]⟩ : ByteArray)) := (blk_cell BK137.out 1).trans rfl; have hcz19_2 : w18.cell? ⟨gb137, 2, none⟩ = some (.int .u64 0) := (blk_cell BK137.out 2).trans rfl; have hfz19_0 := blk_frozen BK137.out 0; have hfz19_1 := blk_frozen BK137.out 1; have hfz19_2 := blk_frozen BK137.out 2; obtain ⟨i020, hi020, _, hsz20, _⟩ := info_parts info5; obtain ⟨hcut20, hA20, hC20⟩ := print_take_of (P := Tryz.prog) (Value.int .u8) 0 22 5 .i64 Tryz.underlying22 hi020 hsz20 A134_0 c134_0 (rd_L1 l0 x14_1) (ji13) (of_decide_eq_true (by first | (with_reducible assumption) | assumption)) (of_decide_eq_true (by first | (with_reducible assumption) | assumption)) HC134_0.out; have HR138 := Aside0.mk (Kd.C_of_reads (h1 := fun _ => rfl) (hA20 _ (Kd.reads_of_C HR134_0.out))); have HC138 := Aside0.mk hC20; clear hA20 hC20 hi020 hsz20) | ((with_reducible refine gate_callee (f := 14) rfl ?_); refine goesL_ (some 33) rfl rfl Tryz.func14 (by kernel_rfl) rfl #[.slice A134_0 ((rd_L1 l0 x14_1).take ((ji13) : Int).toNat).length c134_0] rfl (by (try simp only [List.map_toArray, List.map_cons, List.map_nil]); first | done | (rw [show ((rd_L1 l0 x14_1).take ((ji13) : Int).toNat).length = (ji13).toNat from (by rw [List.length_take]; have h_ : ((ji13) : Int) ≤ ((rd_L1 l0 x14_1).length : Int) := of_decide_eq_true (by first | (with_reducible assumption) | assumption); omega)] <;> rfl) | (simp only [hji13]; rfl) | rfl | (simp only [List.length_drop, List.length_take]; rfl)) ?_; (with_reducible refine (spec_AnPlain.calls k1 _ _ ((rd_L1 l0 x14_1).take ((ji13) : Int).toNat) t139 _ ?side1 ?side2 A16.out).mono ?_); (case side1 => exact Kd.C_below HR138.out (by repeat (first | (with_reducible first | exact HB.out | apply below_alloc | apply pw_below_drewN | apply below_drew1 | refine below_set ?_ GE137.out) | exact HB.out))); (case side2 => exact HC138.out); rintro e w21 ⟨rfl, hb⟩; refine ⟨_, rfl, ?_⟩; have n0_ := Aside0.mk (Kd.R_below (by (with_reducible repeat (first | apply Kd.R_alloc | apply Kd.R_drewN | apply Kd.R_drew)); exact (Kd.R_mono (Kd.R_far (p := ⟨gb137, 2, none⟩) (Kd.R_far (p := ⟨gb137, 1, none⟩) (Kd.R_far (p := ⟨gb137, 0, none⟩) (Kd.R_mono HO_7.out (fun k_ hk => (⟨hk, hk.2⟩ : _ ∧ k_ ≠ gb137))) (fun _ hk => hk.2) (.int .u8 t135)) (fun _ hk => hk.2) (.string (⟨#[]⟩ : ByteArray))) (fun _ hk => hk.2) (.int .u64 t136)) (fun _ h_ => h_.1))) hb); have n1_ := Aside0.mk (blk_below (g := gb137) (o := .cells #[.int .u8 t135, .string (⟨#[]⟩ : ByteArray), .int .u64 t136] 43 (0, 0)) (by (with_reducible repeat (first | refine blk_drewN ?_ _ | refine blk_drew ?_ | refine blk_alloc ?_ _)); refine blk_put (cs := #[.int .u8 t135, .string (⟨#[]⟩ : ByteArray), .int .u64 0]) ?_ 2 _ rfl; (with_reducible repeat (first | refine blk_drewN ?_ _ | refine blk_drew ?_ | refine blk_alloc ?_ _)); refine blk_put (cs := #[.int .u8 t135, .string (⟨#[]⟩ : ByteArray), .int .u64 0]) ?_ 1 _ rfl; (with_reducible repeat (first | refine blk_drewN ?_ _ | refine blk_drew ?_ | refine blk_alloc ?_ _)); refine blk_put (cs := #[.int .u8 0, .string (⟨#[]⟩ : ByteArray), .int .u64 0]) ?_ 0 _ rfl; (with_reducible repeat (first | refine blk_drewN ?_ _ | refine blk_drew ?_ | refine blk_alloc ?_ _)); exact BK137.out) hb); have n2_ := Aside0.mk (below_step (by repeat (first | (with_reducible first | exact HB.out | apply below_alloc | apply pw_below_drewN | apply below_drew1 | refine below_set ?_ GE137.out) | exact HB.out)) hb); clear HO_7; clear BK137; clear HB; have HO_7 := n0_; have BK137 := n1_; have HB := n2_; clear n0_ n1_ n2_; (try clear hb); (try clear hb2); (try clear hk); (try clear hi); have hcz22_0 : w21.cell? ⟨gb137, 0, none⟩ = some (.int .u8 t135) := (blk_cell BK137.out 0).trans rfl; have hcz22_1 : w21.cell? ⟨gb137, 1, none⟩ = some (.string (⟨#[]⟩ : ByteArray)) := (blk_cell BK137.out 1).trans rfl; have hcz22_2 : w21.cell? ⟨gb137, 2, none⟩ = some (.int .u64 t136) := (blk_cell BK137.out 2).trans rfl; have hfz22_0 := blk_frozen BK137.out 0; have hfz22_1 := blk_frozen BK137.out 1; have hfz22_2 := blk_frozen BK137.out 2) | ((with_reducible refine gate_builtin (b := .append) (xs := #[.tmp 35, .tmp 37]) rfl ?_); at_builtin; refine Kd.R_append k43 (w0 := w) w.heap.size rfl (.tmp 35) (.tmp 37) 27 43 (.agg #[(.int .u8 0), (.string ⟨#[]⟩), (.int .u64 0)]) 32 rfl Tryz.underlying27 info43 rfl (by decide) (by omega) u7 x7_1 (⟨t135, t139, t136⟩ : S43) [.int .u8 t135, .string t139, .int .u64 t136] (fun k_ => k_ ≠ gb137) (fun _ => False) rfl (by first | (go_simp; done) | (go_simp; rfl)) ?aP (fun _ hk => hk.elim) ?aF ?aO ?aB ?aS ?aL ?_; (case aP => exact k43_mkM _ _ _ (⟨t135, t139, t136⟩ : S43)); (case aB => exact (by repeat (first | (with_reducible first | exact HB.out | apply below_alloc | apply pw_below_drewN | apply below_drew1 | refine below_set ?_ GE137.out) | exact HB.out))); (case aF => exact (fun k_ hk => Kd.freshB (g := gb137) (o := .cells #[.int .u8 t135, .string t139, .int .u64 t136] 43 (0, 0)) (by (with_reducible repeat (first | refine blk_drewN ?_ _ | refine blk_drew ?_ | refine blk_alloc ?_ _)); refine blk_put (cs := #[.int .u8 t135, .string (⟨#[]⟩ : ByteArray), .int .u64 t136]) ?_ 1 _ rfl; (with_reducible repeat (first | refine blk_drewN ?_ _ | refine blk_drew ?_ | refine blk_alloc ?_ _)); exact BK137.out) k_ hk)); (case aO => exact (by (with_reducible repeat (first | apply Kd.R_alloc | apply Kd.R_drewN | apply Kd.R_drew)); exact Kd.R_mono (Kd.R_far (p := ⟨gb137, 1, none⟩) (Kd.R_mono HO_7.out (fun k_ hk => (⟨hk, hk.2⟩ : _ ∧ k_ ≠ gb137))) (fun _ hk => hk.2) (.string t139)) (fun _ hk => hk.1.2))); (case aS => exact (below_size (by repeat (first | (with_reducible first | exact HB.out | apply below_alloc | apply pw_below_drewN | apply below_drew1 | refine below_set ?_ GE137.out) | exact HB.out)))); (case aL => have := LMc17.out; omega); intro v141 w23 ho hb hg hat; rw [← Ny140.out] at ho; have n0_ := Aside0.mk (blk_grown (g := gb137) (o := .cells #[.int .u8 t135, .string t139, .int .u64 t136] 43 (0, 0)) (by (with_reducible repeat (first | refine blk_drewN ?_ _ | refine blk_drew ?_ | refine blk_alloc ?_ _)); refine blk_put (cs := #[.int .u8 t135, .string (⟨#[]⟩ : ByteArray), .int .u64 t136]) ?_ 1 _ rfl; (with_reducible repeat (first | refine blk_drewN ?_ _ | refine blk_drew ?_ | refine blk_alloc ?_ _)); exact BK137.out) hg (Kd.R_away HO_7.out (fun _ hk => hk.2))); have n1_ := Aside0.mk (hb); have n2_ := Aside0.mk (ho); clear BK137; clear HB; clear HO_7; have BK137 := n0_; have HB := n1_; have HO142 := n2_; clear n0_ n1_ n2_; clear ho hb hg hat))
                      go_roundg k1
                      case measure => have := HK1.out; omega
                      case rel => exact ⟨(y140), (wrap64 (x14_1 + 1)), (by first | rfl | (simp; done) | (simp [*]; done)), H', ⟨by have := HK1.out; omega⟩, ⟨by (with_reducible repeat (first | apply Kd.R_alloc | apply Kd.R_drewN | apply Kd.R_drew)); exact Kd.R_mono HO142.out (fun _ hk => trivial)⟩, ⟨by repeat (first | (with_reducible first | exact HB.out | apply below_alloc | apply pw_below_drewN | apply below_drew1 | refine below_set ?_ GE137.out) | exact HB.out)⟩⟩
                    · rw [if_neg c17] at H
                      exact absurd H (by simp)
                  · rw [if_neg c15] at H
                    exact absurd H (by simp)
                · rw [if_neg c14] at H
                  exact absurd H (by simp)
              · rw [if_neg c12] at H
                have c12b0 : decide (0 < ((rd_L1 l0 x14_1).length : Int)) = false := decide_eq_false c12
                have c12b1 : decide (0 < (rd_L1 l0 x14_1).length) = false := decide_eq_false (by omega)
                clear c12
                by_cases c24 : x7_1.length < 4398046511104
                · rw [if_pos c24] at H
                  have LMc24 := Aside0.mk c24
                  clear c24
                  obtain ⟨y143, hy143⟩ : ∃ y_ : List (S43), y_ = (x7_1 ++ [(⟨t135, (⟨#[]⟩ : ByteArray), t136⟩ : S43)]) := ⟨_, rfl⟩
                  replace H : (laws_idSpecial.l0 k1 l1 l2 y143 l0 (l0.length : Int) (wrap64 (x14_1 + 1))) = some r := by first | (rw [hy143]; with_reducible exact H) | (have H2_ := (Option.bind_some _ _).symm.trans H; rw [hy143]; with_reducible exact H2_) | (have H2_ := (Option.bind_some _ _).symm.trans H; with_reducible exact H2_) | with_reducible exact H | (rw [hy143]; exact H) | exact H
                  have Ny143 := Aside0.mk hy143
                  clear hy143
                  have H' := Aside0.mk H
                  clear H
                  have p134 : 0 ≤ (x14_1 : Int) := of_decide_eq_true (by first | (with_reducible assumption) | assumption)
                  have q134 : x14_1 < (l0.length : Int) := of_decide_eq_true (by first | (with_reducible assumption) | assumption)
                  obtain ⟨ad134, A134_0, c134_0, e134, hx134_0, hl134_0, hi134_0⟩ := at_L1 HR0.out x14_1 p134 q134
                  cases e134
                  replace hx134_0 := (HB.out.cell (World.block_lt_of_cell? w _ hx134_0)).trans hx134_0
                  have HR134_0 := Aside0.mk hi134_0
                  have HC134_0 := Aside0.mk hl134_0
                  clear hi134_0 hl134_0
                  replace p134 := eq_true p134
                  replace q134 := eq_true q134
                  go_wp2_with (first | (go_at_call 15; refine (idCut_at _ _ _ _ _ _ (by assumption) (by assumption)).mono ?_; rintro e w_ ⟨rfl, rfl⟩) | ((with_reducible refine gate_callee (f := 29) rfl ?_); refine goesL_ (some 23) rfl rfl Tryz.func29 (by kernel_rfl) rfl #[.slice A1 l1.length c1, .int .i64 x14_1, .int .u8 65] rfl (by (try simp only [List.map_toArray, List.map_cons, List.map_nil]); first | done | rfl | (simp only [List.length_drop, List.length_take]; rfl)) ?_; (with_reducible refine (laws_idSpace.calls _ _ l1 x14_1 65 t135 _ ?side1 ?side2 A10.out).mono ?_); (case side1 => repeat (first | exact (Kd.C_below HR1.out HB.out) | (with_reducible refine Kd.C_alloc ?_ _) | (with_reducible refine Kd.C_drewN ?_ _) | (with_reducible refine Kd.C_drew ?_))); (case side2 => exact HC1.out); rintro e w' ⟨rfl, ⟨nd, rfl⟩⟩; refine ⟨_, rfl, ?_⟩; (try (rw [drewN_self wr]; generalize hq_ : World.drewN wr _ = wr; have n0_ : Aside0 (Kd.R k43 43 wr w.heap.size (fun _ => True) u7 x7_1) := ⟨by rw [← hq_]; exact (by (with_reducible repeat (first | apply Kd.R_alloc | apply Kd.R_drewN | apply Kd.R_drew)); exact HO_7.out)⟩; have n1_ : Aside0 (Below w.heap.size w wr) := ⟨by rw [← hq_]; exact (by repeat (first | (with_reducible first | exact HB.out | apply below_alloc | apply pw_below_drewN | apply below_drew1) | exact HB.out))⟩; clear HO_7 HB hq_; have HO_7 := n0_; have HB := n1_; clear n0_ n1_))) | ((with_reducible refine gate_callee (f := 30) rfl ?_); refine goesL_ (some 26) rfl rfl Tryz.func30 (by kernel_rfl) rfl #[.slice A2 l2.length c2, .int .i64 x14_1] rfl (by (try simp only [List.map_toArray, List.map_cons, List.map_nil]); first | done | rfl | (simp only [List.length_drop, List.length_take]; rfl)) ?_; (with_reducible refine (laws_idDis.calls _ _ l2 x14_1 t136 _ ?side1 ?side2 A11.out).mono ?_); (case side1 => repeat (first | exact (Kd.C_below HR2.out HB.out) | (with_reducible refine Kd.C_alloc ?_ _) | (with_reducible refine Kd.C_drewN ?_ _) | (with_reducible refine Kd.C_drew ?_))); (case side2 => exact HC2.out); rintro e w' ⟨rfl, ⟨nd, rfl⟩⟩; refine ⟨_, rfl, ?_⟩; (try (rw [drewN_self wr]; generalize hq_ : World.drewN wr _ = wr; have n0_ : Aside0 (Kd.R k43 43 wr w.heap.size (fun _ => True) u7 x7_1) := ⟨by rw [← hq_]; exact (by (with_reducible repeat (first | apply Kd.R_alloc | apply Kd.R_drewN | apply Kd.R_drew)); exact HO_7.out)⟩; have n1_ : Aside0 (Below w.heap.size w wr) := ⟨by rw [← hq_]; exact (by repeat (first | (with_reducible first | exact HB.out | apply below_alloc | apply pw_below_drewN | apply below_drew1) | exact HB.out))⟩; clear HO_7 HB hq_; have HO_7 := n0_; have HB := n1_; clear n0_ n1_))) | ((with_reducible refine gate_dst (N := 10) rfl ?_); refine box_event ?hg (N := 10) ?hd (cs := #[.int .u8 0, .string (⟨#[]⟩ : ByteArray), .int .u64 0]) (t := 43) ?hr ?_; (case hd => rfl); (case hg => rfl); (case hr => first | (go_simp; done) | (go_simp; rfl)); intro gb137 hg w25 hbox hb; have n0_ := Aside0.mk (Kd.R_below (Kd.R_elderB (by (with_reducible repeat (first | apply Kd.R_alloc | apply Kd.R_drewN | apply Kd.R_drew)); exact HO_7.out) gb137 (Nat.le_of_eq hg.symm)) hb); have n1_ := Aside0.mk (below_step (by repeat (first | (with_reducible first | exact HB.out | apply below_alloc | apply pw_below_drewN | apply below_drew1) | exact HB.out)) hb); have n2_ := Aside0.mk (hbox); have n3_ := Aside0.mk ((by rw [hg]; exact (below_size (by repeat (first | (with_reducible first | exact HB.out | apply below_alloc | apply pw_below_drewN | apply below_drew1) | exact HB.out))) : w.heap.size ≤ gb137)); have n4_ := Aside0.mk ((by rw [hg]; exact (below_size (by repeat (first | (with_reducible first | exact HB.out | apply below_alloc | apply pw_below_drewN | apply below_drew1) | exact HB.out))) : w.heap.size ≤ gb137)); clear HO_7; clear HB; have HO_7 := n0_; have HB := n1_; have BK137 := n2_; have GW137 := n3_; have GE137 := n4_; clear n0_ n1_ n2_ n3_ n4_; clear hb hbox hg; have hcz26_0 : w25.cell? ⟨gb137, 0, none⟩ = some (.int .u8 0) := (blk_cell BK137.out 0).trans rfl; have hcz26_1 : w25.cell? ⟨gb137, 1, none⟩ = some (.string (⟨#[]⟩ : ByteArray)) := (blk_cell BK137.out 1).trans rfl; have hcz26_2 : w25.cell? ⟨gb137, 2, none⟩ = some (.int .u64 0) := (blk_cell BK137.out 2).trans rfl; have hfz26_0 := blk_frozen BK137.out 0; have hfz26_1 := blk_frozen BK137.out 1; have hfz26_2 := blk_frozen BK137.out 2) | ((with_reducible refine gate_builtin (b := .append) (xs := #[.tmp 35, .tmp 37]) rfl ?_); at_builtin; refine Kd.R_append k43 (w0 := w) w.heap.size rfl (.tmp 35) (.tmp 37) 27 43 (.agg #[(.int .u8 0), (.string ⟨#[]⟩), (.int .u64 0)]) 32 rfl Tryz.underlying27 info43 rfl (by decide) (by omega) u7 x7_1 (⟨t135, (⟨#[]⟩ : ByteArray), t136⟩ : S43) [.int .u8 t135, .string (⟨#[]⟩ : ByteArray), .int .u64 t136] (fun k_ => k_ ≠ gb137) (fun _ => False) rfl (by first | (go_simp; done) | (go_simp; rfl)) ?aP (fun _ hk => hk.elim) ?aF ?aO ?aB ?aS ?aL ?_; (case aP => exact k43_mkM _ _ _ (⟨t135, (⟨#[]⟩ : ByteArray), t136⟩ : S43)); (case aB => exact (by repeat (first | (with_reducible first | exact HB.out | apply below_alloc | apply pw_below_drewN | apply below_drew1 | refine below_set ?_ GE137.out) | exact HB.out))); (case aF => exact (fun k_ hk => Kd.freshB (g := gb137) (o := .cells #[.int .u8 t135, .string (⟨#[]⟩ : ByteArray), .int .u64 t136] 43 (0, 0)) (by (with_reducible repeat (first | refine blk_drewN ?_ _ | refine blk_drew ?_ | refine blk_alloc ?_ _)); refine blk_put (cs := #[.int .u8 t135, .string (⟨#[]⟩ : ByteArray), .int .u64 0]) ?_ 2 _ rfl; (with_reducible repeat (first | refine blk_drewN ?_ _ | refine blk_drew ?_ | refine blk_alloc ?_ _)); refine blk_put (cs := #[.int .u8 t135, .string (⟨#[]⟩ : ByteArray), .int .u64 0]) ?_ 1 _ rfl; (with_reducible repeat (first | refine blk_drewN ?_ _ | refine blk_drew ?_ | refine blk_alloc ?_ _)); refine blk_put (cs := #[.int .u8 0, .string (⟨#[]⟩ : ByteArray), .int .u64 0]) ?_ 0 _ rfl; (with_reducible repeat (first | refine blk_drewN ?_ _ | refine blk_drew ?_ | refine blk_alloc ?_ _)); exact BK137.out) k_ hk)); (case aO => exact (by (with_reducible repeat (first | apply Kd.R_alloc | apply Kd.R_drewN | apply Kd.R_drew)); exact Kd.R_mono (Kd.R_far (p := ⟨gb137, 2, none⟩) (Kd.R_far (p := ⟨gb137, 1, none⟩) (Kd.R_far (p := ⟨gb137, 0, none⟩) (Kd.R_mono HO_7.out (fun k_ hk => (⟨hk, hk.2⟩ : _ ∧ k_ ≠ gb137))) (fun _ hk => hk.2) (.int .u8 t135)) (fun _ hk => hk.2) (.string (⟨#[]⟩ : ByteArray))) (fun _ hk => hk.2) (.int .u64 t136)) (fun _ hk => hk.1.2))); (case aS => exact (below_size (by repeat (first | (with_reducible first | exact HB.out | apply below_alloc | apply pw_below_drewN | apply below_drew1 | refine below_set ?_ GE137.out) | exact HB.out)))); (case aL => have := LMc24.out; omega); intro v144 w27 ho hb hg hat; rw [← Ny143.out] at ho; have n0_ := Aside0.mk (blk_grown (g := gb137) (o := .cells #[.int .u8 t135, .string (⟨#[]⟩ : ByteArray), .int .u64 t136] 43 (0, 0)) (by (with_reducible repeat (first | refine blk_drewN ?_ _ | refine blk_drew ?_ | refine blk_alloc ?_ _)); refine blk_put (cs := #[.int .u8 t135, .string (⟨#[]⟩ : ByteArray), .int .u64 0]) ?_ 2 _ rfl; (with_reducible repeat (first | refine blk_drewN ?_ _ | refine blk_drew ?_ | refine blk_alloc ?_ _)); refine blk_put (cs := #[.int .u8 t135, .string (⟨#[]⟩ : ByteArray), .int .u64 0]) ?_ 1 _ rfl; (with_reducible repeat (first | refine blk_drewN ?_ _ | refine blk_drew ?_ | refine blk_alloc ?_ _)); refine blk_put (cs := #[.int .u8 0, .string (⟨#[]⟩ : ByteArray), .int .u64 0]) ?_ 0 _ rfl; (with_reducible repeat (first | refine blk_drewN ?_ _ | refine blk_drew ?_ | refine blk_alloc ?_ _)); exact BK137.out) hg (Kd.R_away HO_7.out (fun _ hk => hk.2))); have n1_ := Aside0.mk (hb); have n2_ := Aside0.mk (ho); clear BK137; clear HB; clear HO_7; have BK137 := n0_; have HB := n1_; have HO145 := n2_; clear n0_ n1_ n2_; clear ho hb hg hat))
                  go_roundg k1
                  case measure => have := HK1.out; omega
                  case rel => exact ⟨(y143), (wrap64 (x14_1 + 1)), (by first | rfl | (simp; done) | (simp [*]; done)), H', ⟨by have := HK1.out; omega⟩, ⟨by (with_reducible repeat (first | apply Kd.R_alloc | apply Kd.R_drewN | apply Kd.R_drew)); exact Kd.R_mono HO145.out (fun _ hk => trivial)⟩, ⟨by repeat (first | (with_reducible first | exact HB.out | apply below_alloc | apply pw_below_drewN | apply below_drew1 | refine below_set ?_ GE137.out) | exact HB.out)⟩⟩
                · rw [if_neg c24] at H
                  exact absurd H (by simp)
            · rw [if_neg c9] at H
              have c9b0 : decide (x14_1 < 100) = false := decide_eq_false c9
              clear c9
              have H' := Aside0.mk H
              clear H
              have p134 : 0 ≤ (x14_1 : Int) := of_decide_eq_true (by first | (with_reducible assumption) | assumption)
              have q134 : x14_1 < (l0.length : Int) := of_decide_eq_true (by first | (with_reducible assumption) | assumption)
              obtain ⟨ad134, A134_0, c134_0, e134, hx134_0, hl134_0, hi134_0⟩ := at_L1 HR0.out x14_1 p134 q134
              cases e134
              replace hx134_0 := (HB.out.cell (World.block_lt_of_cell? w _ hx134_0)).trans hx134_0
              have HR134_0 := Aside0.mk hi134_0
              have HC134_0 := Aside0.mk hl134_0
              clear hi134_0 hl134_0
              replace p134 := eq_true p134
              replace q134 := eq_true q134
              go_wp2
              go_roundg k1
              case measure => have := HK1.out; omega
              case rel => exact ⟨(x7_1), (wrap64 (x14_1 + 1)), (by first | rfl | (simp; done) | (simp [*]; done)), H', ⟨by have := HK1.out; omega⟩, ⟨by (with_reducible repeat (first | apply Kd.R_alloc | apply Kd.R_drewN | apply Kd.R_drew)); exact HO_7.out⟩, ⟨by repeat (first | (with_reducible first | exact HB.out | apply below_alloc | apply pw_below_drewN | apply below_drew1) | exact HB.out)⟩⟩
          · rw [if_neg c8] at H
            exact absurd H (by simp)
        · rw [if_neg c7] at H
          exact absurd H (by simp)
      · rw [if_neg c6] at H
        have c6b0 : decide (x14_1 < (l0.length : Int)) = false := decide_eq_false c6
        clear c6
        obtain rfl := Option.some.inj H
        go_wp2
        go_ret
        exact ⟨_, by first | rfl | (simp [errW_none, errW_some] <;> rfl) | (simp [*, errW_none, errW_some] <;> rfl), by (with_reducible repeat (first | apply Kd.R_alloc | apply Kd.R_drewN | apply Kd.R_drew)); exact HO_7.out, by repeat (first | (with_reducible first | exact HB.out | apply below_alloc | apply pw_below_drewN | apply below_drew1) | exact HB.out)⟩

/-! ### laws_FnSpecialParts: function 12 -/
def laws_FnSpecialParts.j0 : Nat → List Int → List (List Int) → List Int → List Int → Bool → Option (Bool)
  | 0, _, _, _, _, _ => none
  | k + 1, x0, x1, x2, x3, x28 => if x28 = true then (some true) else (if 0 ≤ (mn (x0.length : Int) 1000) then (if (mn (x0.length : Int) 1000) ≤ (x0.length : Int) then ((spec_AnPlain.f k (x0.take ((mn (x0.length : Int) 1000) : Int).toNat)).bind fun t148 => ((laws_idSpecial.f k x1 x2 x3).bind fun t149 => ((spec_IdSymbol.f k t148 0 t149).bind fun t152 => (if 2 + t152.size ≤ 9223372036854775807 then ((spec_IdText.f k t148 t149).bind fun t153 => ((laws_idTold.f ((⟨#[95, 82]⟩ : ByteArray) ++ t152) t153).bind fun t154 => (some t154))) else (none))))) else (none)) else (none))
def laws_FnSpecialParts.f (k : Nat) (l0 : List Int) (l1 : List (List Int)) (l2 : List Int) (l3 : List Int) : Option (Bool) := if (l0.length : Int) > 2147483647 then (laws_FnSpecialParts.j0 k l0 l1 l2 l3 true) else ((laws_zzFits1.f k l1).bind fun t146 => (if t146 = true then (if (l2.length : Int) > 2147483647 then (laws_FnSpecialParts.j0 k l0 l1 l2 l3 true) else (laws_FnSpecialParts.j0 k l0 l1 l2 l3 (decide ((l3.length : Int) > 2147483647)))) else (laws_FnSpecialParts.j0 k l0 l1 l2 l3 true)))
theorem laws_FnSpecialParts.mono_l : ∀ k, (∀ y0 y1 y2 y3 y4, LeO (laws_FnSpecialParts.j0 k y0 y1 y2 y3 y4) (laws_FnSpecialParts.j0 (k + 1) y0 y1 y2 y3 y4))
  | 0 => fun _ _ _ _ _ r h => by simp [laws_FnSpecialParts.j0] at h
  | k + 1 => by
    have ih0 := laws_FnSpecialParts.mono_l k
    · intro y0 y1 y2 y3 y4
      unfold laws_FnSpecialParts.j0
      repeat' first
      | (with_reducible exact ih0 _ _ _ _ _)
      | (with_reducible exact laws_idSpecial.mono _ _ _ _)
      | (with_reducible exact laws_zzFits1.mono _ _)
      | (with_reducible exact spec_AnPlain.mono _ _)
      | (with_reducible exact spec_IdSymbol.mono _ _ _ _)
      | (with_reducible exact spec_IdText.mono _ _ _)
      | (with_reducible exact LeO.refl _)
      | (with_reducible exact LeO.none _)
      | (with_reducible refine LeO.ite ?_ ?_)
      | (with_reducible refine LeO.bind ?_ (fun _ => ?_))
      | exact ih0 _ _ _ _ _
      | exact laws_idSpecial.mono _ _ _ _
      | exact laws_zzFits1.mono _ _
      | exact spec_AnPlain.mono _ _
      | exact spec_IdSymbol.mono _ _ _ _
      | exact spec_IdText.mono _ _ _
      | exact LeO.none _
      | refine LeO.ite ?_ ?_
      | refine LeO.bind ?_ (fun _ => ?_)
theorem laws_FnSpecialParts.mono : ∀ a0 a1 a2 a3 k, LeO (laws_FnSpecialParts.f k a0 a1 a2 a3) (laws_FnSpecialParts.f (k + 1) a0 a1 a2 a3) := by
  intro a0 a1 a2 a3 k
  have ih0 := laws_FnSpecialParts.mono_l k
  unfold laws_FnSpecialParts.f
  repeat' first
      | (with_reducible exact ih0 _ _ _ _ _)
      | (with_reducible exact laws_idSpecial.mono _ _ _ _)
      | (with_reducible exact laws_zzFits1.mono _ _)
      | (with_reducible exact spec_AnPlain.mono _ _)
      | (with_reducible exact spec_IdSymbol.mono _ _ _ _)
      | (with_reducible exact spec_IdText.mono _ _ _)
      | (with_reducible exact LeO.refl _)
      | (with_reducible exact LeO.none _)
      | (with_reducible refine LeO.ite ?_ ?_)
      | (with_reducible refine LeO.bind ?_ (fun _ => ?_))
      | exact ih0 _ _ _ _ _
      | exact laws_idSpecial.mono _ _ _ _
      | exact laws_zzFits1.mono _ _
      | exact spec_AnPlain.mono _ _
      | exact spec_IdSymbol.mono _ _ _ _
      | exact spec_IdText.mono _ _ _
      | exact LeO.none _
      | refine LeO.ite ?_ ?_
      | refine LeO.bind ?_ (fun _ => ?_)
set_option maxHeartbeats 8000000 in
set_option maxRecDepth 100000 in
theorem laws_FnSpecialParts.calls (k : Nat) (A0 : Option Addr) (c0 : Nat) (l0 : List Int) (A1 : Option Addr) (c1 : Nat) (l1 : List (List Int)) (A2 : Option Addr) (c2 : Nat) (l2 : List Int) (A3 : Option Addr) (c3 : Nat) (l3 : List Int) (r : Bool) (w : World) (hr0 : Kd.C (Kd.int .u8) w A0 l0.length l0) (hc0 : l0.length ≤ c0) (hr1 : Kd.C (Kd.slice 5 (Kd.int .u8)) w A1 l1.length l1) (hc1 : l1.length ≤ c1) (hr2 : Kd.C (Kd.int .u8) w A2 l2.length l2) (hc2 : l2.length ≤ c2) (hr3 : Kd.C (Kd.int .i64) w A3 l3.length l3) (hc3 : l3.length ≤ c3) (hT_ : DoorIs w) (h : laws_FnSpecialParts.f k l0 l1 l2 l3 = some r) :
    Calls Tryz.prog 12 #[.slice A0 l0.length c0, .slice A1 l1.length c1, .slice A2 l2.length c2, .slice A3 l3.length c3] w fun e w' => e = .returned (.bool r) ∧ Below w.heap.size w w' := by
  have HR0 := Aside0.mk hr0
  have HC0 := Aside0.mk hc0
  clear hr0 hc0
  have HR1 := Aside0.mk hr1
  have HC1 := Aside0.mk hc1
  clear hr1 hc1
  have HR2 := Aside0.mk hr2
  have HC2 := Aside0.mk hc2
  clear hr2 hc2
  have HR3 := Aside0.mk hr3
  have HC3 := Aside0.mk hc3
  clear hr3 hc3
  have HB := Aside0.mk (Below.refl w.heap.size w)
  have H : (if (l0.length : Int) > 2147483647 then (laws_FnSpecialParts.j0 k l0 l1 l2 l3 true) else ((laws_zzFits1.f k l1).bind fun t146 => (if t146 = true then (if (l2.length : Int) > 2147483647 then (laws_FnSpecialParts.j0 k l0 l1 l2 l3 true) else (laws_FnSpecialParts.j0 k l0 l1 l2 l3 (decide ((l3.length : Int) > 2147483647)))) else (laws_FnSpecialParts.j0 k l0 l1 l2 l3 true)))) = some r := h
  clear h
  have HC5 := Aside0.mk H
  clear H
  go_enter Tryz.func12, Tryz.ntmps12
  go_upto_region 1 with (fail)
  go_cut [28] (fun v28 wc => ∃ (kq : Nat) (x28_4 : Bool), v28 = .bool x28_4 ∧ Aside0 (laws_FnSpecialParts.j0 kq l0 l1 l2 l3 x28_4 = some r) ∧ Aside0 (kq ≤ k) ∧ Aside0 (Below w.heap.size w wc))
  case first =>
    have H := HC5.out
    clear HC5
    by_cases c6 : (l0.length : Int) > 2147483647
    · rw [if_pos c6] at H
      have c6b0 : decide (2147483647 < (l0.length : Int)) = true := decide_eq_true c6
      have c6b1 : decide (2147483647 < l0.length) = true := decide_eq_true (by omega)
      clear c6
      (first | rw [c6b0] | (simp only [i64_w, i32_w]; rw [c6b0]) | rw [c6b1] | skip)
      have H' := Aside0.mk H
      clear H
      go_wp2
      go_meet
      case rel => exact ⟨_, (true), (by first | rfl | (simp; done) | (simp [*]; done)), H', ⟨by first | omega | exact Nat.le_refl _⟩, ⟨by repeat (first | (with_reducible first | exact HB.out | apply below_alloc | apply pw_below_drewN | apply below_drew1) | exact HB.out)⟩⟩
    · rw [if_neg c6] at H
      have c6b0 : decide (2147483647 < (l0.length : Int)) = false := decide_eq_false c6
      have c6b1 : decide (2147483647 < l0.length) = false := decide_eq_false (by omega)
      clear c6
      (first | rw [c6b0] | (simp only [i64_w, i32_w]; rw [c6b0]) | rw [c6b1] | skip)
      replace H := Option.bind_eq_some_iff.mp H
      obtain ⟨t146, A70, H⟩ := H
      replace H : (if t146 = true then (if (l2.length : Int) > 2147483647 then (laws_FnSpecialParts.j0 k l0 l1 l2 l3 true) else (laws_FnSpecialParts.j0 k l0 l1 l2 l3 (decide ((l3.length : Int) > 2147483647)))) else (laws_FnSpecialParts.j0 k l0 l1 l2 l3 true)) = some r := H
      have A7 := Aside0.mk A70
      clear A70
      by_cases c8 : t146 = true
      · subst c8
        have H1 : (if (l2.length : Int) > 2147483647 then (laws_FnSpecialParts.j0 k l0 l1 l2 l3 true) else (laws_FnSpecialParts.j0 k l0 l1 l2 l3 (decide ((l3.length : Int) > 2147483647)))) = some r := by rw [if_pos rfl] at H; exact H
        clear H
        have H := H1
        clear H1
        by_cases c9 : (l2.length : Int) > 2147483647
        · rw [if_pos c9] at H
          have c9b0 : decide (2147483647 < (l2.length : Int)) = true := decide_eq_true c9
          have c9b1 : decide (2147483647 < l2.length) = true := decide_eq_true (by omega)
          clear c9
          have H' := Aside0.mk H
          clear H
          go_wp2_with (first | (go_at_call 15; refine (idCut_at _ _ _ _ _ _ (by assumption) (by assumption)).mono ?_; rintro e w_ ⟨rfl, rfl⟩) | (go_at_call 13; (with_reducible refine (laws_zzFits1.calls k _ _ l1 true _ ?side1 ?side2 A7.out).mono ?_); (case side1 => repeat (first | exact (Kd.C_below HR1.out HB.out) | (with_reducible refine Kd.C_alloc ?_ _) | (with_reducible refine Kd.C_drewN ?_ _) | (with_reducible refine Kd.C_drew ?_))); (case side2 => exact HC1.out); rintro e w' ⟨rfl, ⟨nd, rfl⟩⟩))
          go_meet
          case rel => exact ⟨_, (true), (by first | rfl | (simp; done) | (simp [*]; done)), H', ⟨by first | omega | exact Nat.le_refl _⟩, ⟨by repeat (first | (with_reducible first | exact HB.out | apply below_alloc | apply pw_below_drewN | apply below_drew1) | exact HB.out)⟩⟩
        · rw [if_neg c9] at H
          have c9b0 : decide (2147483647 < (l2.length : Int)) = false := decide_eq_false c9
          have c9b1 : decide (2147483647 < l2.length) = false := decide_eq_false (by omega)
          clear c9
          have H' := Aside0.mk H
          clear H
          go_wp2_with (first | (go_at_call 15; refine (idCut_at _ _ _ _ _ _ (by assumption) (by assumption)).mono ?_; rintro e w_ ⟨rfl, rfl⟩) | (go_at_call 13; (with_reducible refine (laws_zzFits1.calls k _ _ l1 true _ ?side1 ?side2 A7.out).mono ?_); (case side1 => repeat (first | exact (Kd.C_below HR1.out HB.out) | (with_reducible refine Kd.C_alloc ?_ _) | (with_reducible refine Kd.C_drewN ?_ _) | (with_reducible refine Kd.C_drew ?_))); (case side2 => exact HC1.out); rintro e w' ⟨rfl, ⟨nd, rfl⟩⟩))
          go_meet
          case rel => exact ⟨_, (decide ((l3.length : Int) > 2147483647)), (by first | rfl | (simp; done) | (simp [*]; done)), H', ⟨by first | omega | exact Nat.le_refl _⟩, ⟨by repeat (first | (with_reducible first | exact HB.out | apply below_alloc | apply pw_below_drewN | apply below_drew1) | exact HB.out)⟩⟩
      · replace c8 := Bool.eq_false_iff.mpr c8
        subst c8
        have H1 : (laws_FnSpecialParts.j0 k l0 l1 l2 l3 true) = some r := by rw [if_neg (show ¬ (false = true) by decide)] at H; exact H
        clear H
        have H := H1
        clear H1
        have H' := Aside0.mk H
        clear H
        go_wp2_with (first | (go_at_call 15; refine (idCut_at _ _ _ _ _ _ (by assumption) (by assumption)).mono ?_; rintro e w_ ⟨rfl, rfl⟩) | (go_at_call 13; (with_reducible refine (laws_zzFits1.calls k _ _ l1 false _ ?side1 ?side2 A7.out).mono ?_); (case side1 => repeat (first | exact (Kd.C_below HR1.out HB.out) | (with_reducible refine Kd.C_alloc ?_ _) | (with_reducible refine Kd.C_drewN ?_ _) | (with_reducible refine Kd.C_drew ?_))); (case side2 => exact HC1.out); rintro e w' ⟨rfl, ⟨nd, rfl⟩⟩))
        go_meet
        case rel => exact ⟨_, (true), (by first | rfl | (simp; done) | (simp [*]; done)), H', ⟨by first | omega | exact Nat.le_refl _⟩, ⟨by repeat (first | (with_reducible first | exact HB.out | apply below_alloc | apply pw_below_drewN | apply below_drew1) | exact HB.out)⟩⟩
  case rest =>
    clear HC5
    try clear c1
    try clear c2
    try clear p2
    try clear c3
    try clear c6
    try clear c6b0
    try clear c6b1
    try clear c8
    try clear c9
    try clear c9b0
    try clear c9b1
    obtain ⟨kq, x28_4, rfl, HA, HJ4, HB⟩ := hcut
    cases kq with
    | zero => exact absurd HA.out (by simp [laws_FnSpecialParts.j0])
    | succ kj4 =>
      have H := HA.out
      clear HA
      simp only [laws_FnSpecialParts.j0] at H
      by_cases c10 : x28_4 = true
      · subst c10
        have H1 : (some true) = some r := by rw [if_pos rfl] at H; exact H
        clear H
        have H := H1
        clear H1
        obtain rfl := Option.some.inj H
        go_wp2
        go_ret
        exact ⟨by first | rfl | (simp [errW_none, errW_some] <;> rfl) | (simp [*, errW_none, errW_some] <;> rfl), by repeat (first | (with_reducible first | exact HB.out | apply below_alloc | apply pw_below_drewN | apply below_drew1) | exact HB.out)⟩
      · replace c10 := Bool.eq_false_iff.mpr c10
        subst c10
        have H1 : (if 0 ≤ (mn (l0.length : Int) 1000) then (if (mn (l0.length : Int) 1000) ≤ (l0.length : Int) then ((spec_AnPlain.f kj4 (l0.take ((mn (l0.length : Int) 1000) : Int).toNat)).bind fun t148 => ((laws_idSpecial.f kj4 l1 l2 l3).bind fun t149 => ((spec_IdSymbol.f kj4 t148 0 t149).bind fun t152 => (if 2 + t152.size ≤ 9223372036854775807 then ((spec_IdText.f kj4 t148 t149).bind fun t153 => ((laws_idTold.f ((⟨#[95, 82]⟩ : ByteArray) ++ t152) t153).bind fun t154 => (some t154))) else (none))))) else (none)) else (none)) = some r := by rw [if_neg (show ¬ (false = true) by decide)] at H; exact H
        clear H
        have H := H1
        clear H1
        obtain ⟨ji11, hji11⟩ : ∃ j_ : Int, (mn (l0.length : Int) 1000) = j_ := ⟨_, rfl⟩
        replace H : (if 0 ≤ (ji11) then (if (ji11) ≤ (l0.length : Int) then ((spec_AnPlain.f kj4 (l0.take ((ji11) : Int).toNat)).bind fun t148 => ((laws_idSpecial.f kj4 l1 l2 l3).bind fun t149 => ((spec_IdSymbol.f kj4 t148 0 t149).bind fun t152 => (if 2 + t152.size ≤ 9223372036854775807 then ((spec_IdText.f kj4 t148 t149).bind fun t153 => ((laws_idTold.f ((⟨#[95, 82]⟩ : ByteArray) ++ t152) t153).bind fun t154 => (some t154))) else (none))))) else (none)) else (none)) = some r := by first | (rw [hji11] at H; exact H) | (simp only [hji11] at H ⊢; exact H)
        (try (have hji11h : ji11 ≤ 1000 := by (rw [← hji11]; unfold mn; (repeat' split) <;> omega)))
        (try (have hji11g : ji11 ≤ 64 := by omega))
        (try (have hji11l : 0 ≤ ji11 := by (rw [← hji11]; unfold mn; (repeat' split) <;> omega)))
        (try (have hji11m : 0 ≤ ji11 := by omega))
        have hji11_ : (if 1000 < (l0.length : Int) then 1000 else (l0.length : Int)) = ji11 := hji11
        by_cases c12 : 0 ≤ (ji11)
        · rw [if_pos c12] at H
          have c12b0 := eq_true c12
          have c12b1 : decide (0 ≤ (ji11)) = true := decide_eq_true c12
          clear c12
          by_cases c13 : (ji11) ≤ (l0.length : Int)
          · rw [if_pos c13] at H
            have c13b0 := eq_true c13
            have c13b1 : decide ((ji11) ≤ (l0.length : Int)) = true := decide_eq_true c13
            clear c13
            replace H := Option.bind_eq_some_iff.mp H
            obtain ⟨t148, A140, H⟩ := H
            replace H : ((laws_idSpecial.f kj4 l1 l2 l3).bind fun t149 => ((spec_IdSymbol.f kj4 t148 0 t149).bind fun t152 => (if 2 + t152.size ≤ 9223372036854775807 then ((spec_IdText.f kj4 t148 t149).bind fun t153 => ((laws_idTold.f ((⟨#[95, 82]⟩ : ByteArray) ++ t152) t153).bind fun t154 => (some t154))) else (none)))) = some r := H
            have A14 := Aside0.mk A140
            clear A140
            replace H := Option.bind_eq_some_iff.mp H
            obtain ⟨t149, A150, H⟩ := H
            replace H : ((spec_IdSymbol.f kj4 t148 0 t149).bind fun t152 => (if 2 + t152.size ≤ 9223372036854775807 then ((spec_IdText.f kj4 t148 t149).bind fun t153 => ((laws_idTold.f ((⟨#[95, 82]⟩ : ByteArray) ++ t152) t153).bind fun t154 => (some t154))) else (none))) = some r := H
            have A15 := Aside0.mk A150
            clear A150
            replace H := Option.bind_eq_some_iff.mp H
            obtain ⟨t152, A160, H⟩ := H
            replace H : (if 2 + t152.size ≤ 9223372036854775807 then ((spec_IdText.f kj4 t148 t149).bind fun t153 => ((laws_idTold.f ((⟨#[95, 82]⟩ : ByteArray) ++ t152) t153).bind fun t154 => (some t154))) else (none)) = some r := H
            have A16 := Aside0.mk A160
            clear A160
            by_cases c17 : 2 + t152.size ≤ 9223372036854775807
            · rw [if_pos c17] at H
              have c17b0 := eq_true c17
              have c17b1 : decide (2 + t152.size ≤ 9223372036854775807) = true := decide_eq_true c17
              try have c17b2 : (9223372036854775807 < 2 + t152.size) = False := eq_false (Nat.not_lt.2 c17)
              replace H := Option.bind_eq_some_iff.mp H
              obtain ⟨t153, A180, H⟩ := H
              replace H : ((laws_idTold.f ((⟨#[95, 82]⟩ : ByteArray) ++ t152) t153).bind fun t154 => (some t154)) = some r := H
              have A18 := Aside0.mk A180
              clear A180
              replace H := Option.bind_eq_some_iff.mp H
              obtain ⟨t154, A190, H⟩ := H
              replace H : (some t154) = some r := H
              have A19 := Aside0.mk A190
              clear A190
              obtain rfl := Option.some.inj H
              obtain ⟨i020, hi020, _, hsz20, _⟩ := info_parts info5
              obtain ⟨hcut20, hA20, hC20⟩ := print_take_of (P := Tryz.prog) (Value.int .u8) 0 22 5 .i64 Tryz.underlying22 hi020 hsz20 A0 c0 l0 (ji11) (of_decide_eq_true (by first | (with_reducible assumption) | assumption)) (of_decide_eq_true (by first | (with_reducible assumption) | assumption)) HC0.out
              have HR147 := Aside0.mk (Kd.C_of_reads (h1 := fun _ => rfl) (hA20 _ (Kd.reads_of_C HR0.out)))
              have HC147 := Aside0.mk hC20
              clear hA20 hC20 hi020 hsz20
              go_wp2_with (first | (go_at_call 15; refine (idCut_at _ _ _ _ _ _ (by assumption) (by assumption)).mono ?_; rintro e w_ ⟨rfl, rfl⟩) | ((with_reducible refine gate_callee (f := 14) rfl ?_); refine goesL_ (some 31) rfl rfl Tryz.func14 (by kernel_rfl) rfl #[.slice A0 (l0.take ((ji11) : Int).toNat).length c0] rfl (by (try simp only [List.map_toArray, List.map_cons, List.map_nil]); first | done | (rw [show (l0.take ((ji11) : Int).toNat).length = (ji11).toNat from (by rw [List.length_take]; have h_ : ((ji11) : Int) ≤ (l0.length : Int) := of_decide_eq_true (by first | (with_reducible assumption) | assumption); omega)] <;> rfl) | (simp only [hji11]; rfl) | rfl | (simp only [List.length_drop, List.length_take]; rfl)) ?_; (with_reducible refine (spec_AnPlain.calls kj4 _ _ (l0.take ((ji11) : Int).toNat) t148 _ ?side1 ?side2 A14.out).mono ?_); (case side1 => repeat (first | exact (Kd.C_below HR147.out HB.out) | (with_reducible refine Kd.C_alloc ?_ _) | (with_reducible refine Kd.C_drewN ?_ _) | (with_reducible refine Kd.C_drew ?_))); (case side2 => exact HC147.out); rintro e w21 ⟨rfl, hb⟩; refine ⟨_, rfl, ?_⟩; have n0_ := Aside0.mk (below_step (by repeat (first | (with_reducible first | exact HB.out | apply below_alloc | apply pw_below_drewN | apply below_drew1) | exact HB.out)) hb); clear HB; have HB := n0_; clear n0_; (try clear hb); (try clear hb2); (try clear hk); (try clear hi)) | ((with_reducible refine gate_callee (f := 25) rfl ?_); refine goesL_ (some 35) rfl rfl Tryz.func25 (by kernel_rfl) rfl #[.slice A1 l1.length c1, .slice A2 l2.length c2, .slice A3 l3.length c3] rfl (by (try simp only [List.map_toArray, List.map_cons, List.map_nil]); first | done | rfl | (simp only [List.length_drop, List.length_take]; rfl)) ?_; (with_reducible refine (laws_idSpecial.calls kj4 _ _ l1 _ _ l2 _ _ l3 t149 _ ?side1 ?side2 ?side3 ?side4 ?side5 ?side6 A15.out).mono ?_); (case side1 => repeat (first | exact (Kd.C_below HR1.out HB.out) | (with_reducible refine Kd.C_alloc ?_ _) | (with_reducible refine Kd.C_drewN ?_ _) | (with_reducible refine Kd.C_drew ?_))); (case side2 => exact HC1.out); (case side3 => repeat (first | exact (Kd.C_below HR2.out HB.out) | (with_reducible refine Kd.C_alloc ?_ _) | (with_reducible refine Kd.C_drewN ?_ _) | (with_reducible refine Kd.C_drew ?_))); (case side4 => exact HC2.out); (case side5 => repeat (first | exact (Kd.C_below HR3.out HB.out) | (with_reducible refine Kd.C_alloc ?_ _) | (with_reducible refine Kd.C_drewN ?_ _) | (with_reducible refine Kd.C_drew ?_))); (case side6 => exact HC3.out); rintro e w22 ⟨v150, rfl, ho0, hb⟩; refine ⟨_, rfl, ?_⟩; have n0_ := Aside0.mk (Kd.R_lower ho0 (below_size (by repeat (first | (with_reducible first | exact HB.out | apply below_alloc | apply pw_below_drewN | apply below_drew1) | exact HB.out)))); have n1_ := Aside0.mk (below_step (by repeat (first | (with_reducible first | exact HB.out | apply below_alloc | apply pw_below_drewN | apply below_drew1) | exact HB.out)) hb); clear HB; have HO151 := n0_; have HB := n1_; clear n0_ n1_; (try clear hb); (try clear hb2); (try clear hk); (try clear hi); (try clear ho0); obtain ⟨Ao23, co23, eo23⟩ := Kd.R_slice HO151.out; subst eo23) | ((with_reducible refine gate_callee (f := 18) rfl ?_); refine goesL_ (some 38) rfl rfl Tryz.func18 (by kernel_rfl) rfl #[.string t148, .int .u64 0, .slice Ao23 t149.length co23] rfl (by (try simp only [List.map_toArray, List.map_cons, List.map_nil]); first | done | rfl | (simp only [List.length_drop, List.length_take]; rfl)) ?_; (with_reducible refine (spec_IdSymbol.calls kj4 t148 0 _ _ t149 t152 _ ?side1 ?side2 (show DoorIs _ from ?side3) A16.out).mono ?_); (case side1 => repeat (first | exact (Kd.R_reads' HO151.out).2.2 | (with_reducible refine Kd.C_alloc ?_ _) | (with_reducible refine Kd.C_drewN ?_ _) | (with_reducible refine Kd.C_drew ?_))); (case side2 => exact (Kd.R_reads' HO151.out).2.1); (case side3 => exact Stays.below hT_ (by first | (repeat (first | (with_reducible first | exact HB.out | apply below_alloc | apply pw_below_drewN | apply below_drew1) | exact HB.out)) | (repeat (first | exact Below.refl _ _ | apply below_drew1 | apply pw_below_drewN)))); rintro e w24 ⟨rfl, hb⟩; refine ⟨_, rfl, ?_⟩; have n0_ := Aside0.mk (Kd.R_below (by (with_reducible repeat (first | apply Kd.R_alloc | apply Kd.R_drewN | apply Kd.R_drew)); exact HO151.out) hb); have n1_ := Aside0.mk (below_step (by repeat (first | (with_reducible first | exact HB.out | apply below_alloc | apply pw_below_drewN | apply below_drew1) | exact HB.out)) hb); clear HO151; clear HB; have HO151 := n0_; have HB := n1_; clear n0_ n1_; (try clear hb); (try clear hb2); (try clear hk); (try clear hi)) | ((with_reducible refine gate_callee (f := 19) rfl ?_); refine goesL_ (some 42) rfl rfl Tryz.func19 (by kernel_rfl) rfl #[.string t148, .slice Ao23 t149.length co23] rfl (by (try simp only [List.map_toArray, List.map_cons, List.map_nil]); first | done | rfl | (simp only [List.length_drop, List.length_take]; rfl)) ?_; (with_reducible refine (spec_IdText.calls kj4 t148 _ _ t149 t153 _ ?side1 ?side2 (show DoorIs _ from ?side3) A18.out).mono ?_); (case side1 => repeat (first | exact (Kd.R_reads' HO151.out).2.2 | (with_reducible refine Kd.C_alloc ?_ _) | (with_reducible refine Kd.C_drewN ?_ _) | (with_reducible refine Kd.C_drew ?_))); (case side2 => exact (Kd.R_reads' HO151.out).2.1); (case side3 => exact Stays.below hT_ (by first | (repeat (first | (with_reducible first | exact HB.out | apply below_alloc | apply pw_below_drewN | apply below_drew1) | exact HB.out)) | (repeat (first | exact Below.refl _ _ | apply below_drew1 | apply pw_below_drewN)))); rintro e w25 ⟨rfl, hb⟩; refine ⟨_, rfl, ?_⟩; have n0_ := Aside0.mk (Kd.R_below (by (with_reducible repeat (first | apply Kd.R_alloc | apply Kd.R_drewN | apply Kd.R_drew)); exact HO151.out) hb); have n1_ := Aside0.mk (below_step (by repeat (first | (with_reducible first | exact HB.out | apply below_alloc | apply pw_below_drewN | apply below_drew1) | exact HB.out)) hb); clear HO151; clear HB; have HO151 := n0_; have HB := n1_; clear n0_ n1_; (try clear hb); (try clear hb2); (try clear hk); (try clear hi)) | ((with_reducible refine gate_callee (f := 23) rfl ?_); refine goesL_ (some 43) rfl rfl Tryz.func23 (by kernel_rfl) rfl #[.string ((⟨#[95, 82]⟩ : ByteArray) ++ t152), .string t153] rfl (by (try simp only [List.map_toArray, List.map_cons, List.map_nil]); first | done | rfl | (simp only [List.length_drop, List.length_take]; rfl)) ?_; (with_reducible refine (laws_idTold.calls ((⟨#[95, 82]⟩ : ByteArray) ++ t152) t153 t154 _ (show DoorIs _ from ?side1) A19.out).mono ?_); (case side1 => exact Stays.below hT_ (by first | (repeat (first | (with_reducible first | exact HB.out | apply below_alloc | apply pw_below_drewN | apply below_drew1) | exact HB.out)) | (repeat (first | exact Below.refl _ _ | apply below_drew1 | apply pw_below_drewN)))); rintro e w26 ⟨rfl, hb⟩; refine ⟨_, rfl, ?_⟩; have n0_ := Aside0.mk (Kd.R_below (by (with_reducible repeat (first | apply Kd.R_alloc | apply Kd.R_drewN | apply Kd.R_drew)); exact HO151.out) hb); have n1_ := Aside0.mk (below_step (by repeat (first | (with_reducible first | exact HB.out | apply below_alloc | apply pw_below_drewN | apply below_drew1) | exact HB.out)) hb); clear HO151; clear HB; have HO151 := n0_; have HB := n1_; clear n0_ n1_; (try clear hb); (try clear hb2); (try clear hk); (try clear hi)))
              go_ret
              exact ⟨by first | rfl | (simp [errW_none, errW_some] <;> rfl) | (simp only [← hji11]; first | rfl | (simp [errW_none, errW_some] <;> rfl)) | (simp [*, errW_none, errW_some] <;> rfl), by repeat (first | (with_reducible first | exact HB.out | apply below_alloc | apply pw_below_drewN | apply below_drew1) | exact HB.out)⟩
            · rw [if_neg c17] at H
              exact absurd H (by simp)
          · rw [if_neg c13] at H
            exact absurd H (by simp)
        · rw [if_neg c12] at H
          exact absurd H (by simp)

/-- THE ONE PURE STATEMENT of laws_FnSpecialParts: yours. -/
def laws_FnSpecialParts.Pure : Prop := ∀ (l0 : List Int) (l1 : List (List Int)) (l2 : List Int) (l3 : List Int), l0.length ≤ maxLen → l0.length * 1 ≤ 140737488351232 → (∀ x ∈ l0, (Lit.int .u8 x).wf = true) → l1.length ≤ maxLen → (∀ r ∈ l1, r.length ≤ maxLen ∧ ∀ x ∈ r, (Lit.int .u8 x).wf = true) → l2.length ≤ maxLen → l2.length * 1 ≤ 140737488351232 → (∀ x ∈ l2, (Lit.int .u8 x).wf = true) → l3.length ≤ maxLen → l3.length * 8 ≤ 140737488351232 → (∀ x ∈ l3, (Lit.int .i64 x).wf = true) → ∃ k, laws_FnSpecialParts.f k l0 l1 l2 l3 = some true
theorem laws_FnSpecialParts.walk (P : laws_FnSpecialParts.Pure) (a0 : Option Addr) (len0 cap0 : Nat) (z0 : List Int) (a1 : Option Addr) (cap1 : Nat) (l1 : List (List Int)) (a2 : Option Addr) (len2 cap2 : Nat) (z2 : List Int) (a3 : Option Addr) (len3 cap3 : Nat) (z3 : List Int) (w : World) (hT_ : DoorIs w) (w0 : (a0 = none ∧ len0 = 0 ∧ cap0 = 0 ∧ z0 = []) ∨ ∃ x, a0 = some x ∧ len0 ≤ cap0 ∧ cap0 ≤ maxLen ∧ z0.length = cap0 ∧ (∀ i, i < z0.length → w.cell? (x.add i) = some (.int .u8 (z0.getD i 0))) ∧ ∀ n ∈ z0, (Lit.int .u8 n).wf = true) (y0 : len0 * 1 ≤ 140737488351232) (w1 : (Kd.slice 5 (Kd.int .u8)).C w a1 l1.length l1) (x1 : l1.length ≤ maxLen) (y1 : ∀ r ∈ l1, r.length ≤ maxLen ∧ ∀ x ∈ r, (Lit.int .u8 x).wf = true) (c1 : l1.length ≤ cap1) (w2 : (a2 = none ∧ len2 = 0 ∧ cap2 = 0 ∧ z2 = []) ∨ ∃ x, a2 = some x ∧ len2 ≤ cap2 ∧ cap2 ≤ maxLen ∧ z2.length = cap2 ∧ (∀ i, i < z2.length → w.cell? (x.add i) = some (.int .u8 (z2.getD i 0))) ∧ ∀ n ∈ z2, (Lit.int .u8 n).wf = true) (y2 : len2 * 1 ≤ 140737488351232) (w3 : (a3 = none ∧ len3 = 0 ∧ cap3 = 0 ∧ z3 = []) ∨ ∃ x, a3 = some x ∧ len3 ≤ cap3 ∧ cap3 ≤ maxLen ∧ z3.length = cap3 ∧ (∀ i, i < z3.length → w.cell? (x.add i) = some (.int .i64 (z3.getD i 0))) ∧ ∀ n ∈ z3, (Lit.int .i64 n).wf = true) (y3 : len3 * 8 ≤ 140737488351232) :
    Calls Tryz.prog 12 #[.slice a0 len0 cap0, .slice a1 l1.length cap1, .slice a2 len2 cap2, .slice a3 len3 cap3] w fun e w' => e = .returned (.bool true) ∧ Below w.heap.size w w' := by
  obtain ⟨l0, rfl, hr0, hm0, hw0, hc0⟩ := ReadsInt.ofRowC w0
  obtain ⟨l2, rfl, hr2, hm2, hw2, hc2⟩ := ReadsInt.ofRowC w2
  obtain ⟨l3, rfl, hr3, hm3, hw3, hc3⟩ := ReadsInt.ofRowC w3
  obtain ⟨k, h⟩ := P l0 l1 l2 l3 hm0 y0 hw0 x1 y1 hm2 y2 hw2 hm3 y3 hw3
  refine (laws_FnSpecialParts.calls k _ _ l0 _ _ l1 _ _ l2 _ _ l3 true w (Kd.C_of_reads (d := (0 : Int)) (h1 := fun _ => rfl) hr0) hc0 w1 c1 (Kd.C_of_reads (d := (0 : Int)) (h1 := fun _ => rfl) hr2) hc2 (Kd.C_of_reads (d := (0 : Int)) (h1 := fun _ => rfl) hr3) hc3 hT_ h).mono ?_
  rintro e w' ⟨rfl, hd⟩
  exact ⟨rfl, hd⟩

end Go.Proofs.YtdmkdclockmjbaaGreatDoor.PFnSpecialParts
