/- Written by a program of this session (wip/tools/myprint.py) with the kit's print: contracts of the functions that one statement reaches; functions that are proved by hand are taken as printed. Conditions: none. -/
import Derived.Test.YtpmlnhddkbgefaaDoorPFnLegacyOptionsx0
import Derived.Test.YtpmlnhddkbgefaaDoorPFnLegacyOptionsx1
import Derived.Test.YtpmlnhddkbgefaaDoorPFnLegacyOptionsx2
namespace Go.Proofs.YtpmlnhddkbgefaaDoor.PFnLegacyOptions
open Go.RowKit Go.Proofs.YtpmlnhddkbgefaaDoorW.PrintWords Go.Proofs.YtpmlnhddkbgefaaDoorW.PrintLast Go.Proofs.YtpmlnhddkbgefaaDoorW.PrintMore
attribute [local go_sem] max2_int min2_int max_two min_two max_three min_three max_four min_four   -- for this text's walks alone
set_option linter.unusedVariables false
set_option linter.unusedSimpArgs false

/-! ### laws_FnLegacyOptions: function 13 -/
def laws_FnLegacyOptions.j0 : Nat → List (List Int) → List Int → Bool → Bool → Bool → Bool → Bool → Bool → Bool → Bool → Int → Option (Bool)
  | 0, _, _, _, _, _, _, _, _, _, _, _ => none
  | k + 1, x0, x1, x20, x172000, x172001, x172002, x172003, x172004, x172005, x172006, x172007 => if x20 = true then (some true) else ((laws_lgEscaped.f k x0).bind fun bt173 => ((laws_lgHash.f x1).bind fun bt179 => ((spec_LgSymbol.f k bt173.1 bt179.1).bind fun t181 => ((impl_Old.f t181 x172000 x172001 x172002 x172003 x172004 false x172006 0).bind fun bt182 => (if bt179.2 = true then (if bt182.2 = true then ((spec_LgPath.f k bt173.2).bind fun t184 => (some (bt182.1.toList == t184.toList))) else (some false)) else (some true))))))
def laws_FnLegacyOptions.f (k : Nat) (l0 : List (List Int)) (l1 : List Int) (a2_0 : Bool) (a2_1 : Bool) (a2_2 : Bool) (a2_3 : Bool) (a2_4 : Bool) (a2_5 : Bool) (a2_6 : Bool) (a2_7 : Int) : Option (Bool) := (laws_zzFits3.f k l0).bind fun t172 => (if t172 = true then (laws_FnLegacyOptions.j0 k l0 l1 (decide ((l1.length : Int) > 2147483647)) a2_0 a2_1 a2_2 a2_3 a2_4 a2_5 a2_6 a2_7) else (laws_FnLegacyOptions.j0 k l0 l1 true a2_0 a2_1 a2_2 a2_3 a2_4 a2_5 a2_6 a2_7))
theorem laws_FnLegacyOptions.mono_l : ∀ k, (∀ y0 y1 y2 y3 y4 y5 y6 y7 y8 y9 y10, LeO (laws_FnLegacyOptions.j0 k y0 y1 y2 y3 y4 y5 y6 y7 y8 y9 y10) (laws_FnLegacyOptions.j0 (k + 1) y0 y1 y2 y3 y4 y5 y6 y7 y8 y9 y10))
  | 0 => fun _ _ _ _ _ _ _ _ _ _ _ r h => by simp [laws_FnLegacyOptions.j0] at h
  | k + 1 => by
    have ih0 := laws_FnLegacyOptions.mono_l k
    · intro y0 y1 y2 y3 y4 y5 y6 y7 y8 y9 y10
      unfold laws_FnLegacyOptions.j0
      repeat' first
      | (with_reducible exact ih0 _ _ _ _ _ _ _ _ _ _ _)
      | (with_reducible exact laws_lgEscaped.mono _ _)
      | (with_reducible exact laws_zzFits3.mono _ _)
      | (with_reducible exact spec_LgPath.mono _ _)
      | (with_reducible exact spec_LgSymbol.mono _ _ _)
      | (with_reducible exact LeO.refl _)
      | (with_reducible exact LeO.none _)
      | (with_reducible refine LeO.ite ?_ ?_)
      | (with_reducible refine LeO.bind ?_ (fun _ => ?_))
      | exact ih0 _ _ _ _ _ _ _ _ _ _ _
      | exact laws_lgEscaped.mono _ _
      | exact laws_zzFits3.mono _ _
      | exact spec_LgPath.mono _ _
      | exact spec_LgSymbol.mono _ _ _
      | exact LeO.none _
      | refine LeO.ite ?_ ?_
      | refine LeO.bind ?_ (fun _ => ?_)
theorem laws_FnLegacyOptions.mono : ∀ a0 a1 a2 a3 a4 a5 a6 a7 a8 a9 k, LeO (laws_FnLegacyOptions.f k a0 a1 a2 a3 a4 a5 a6 a7 a8 a9) (laws_FnLegacyOptions.f (k + 1) a0 a1 a2 a3 a4 a5 a6 a7 a8 a9) := by
  intro a0 a1 a2 a3 a4 a5 a6 a7 a8 a9 k
  have ih0 := laws_FnLegacyOptions.mono_l k
  unfold laws_FnLegacyOptions.f
  repeat' first
      | (with_reducible exact ih0 _ _ _ _ _ _ _ _ _ _ _)
      | (with_reducible exact laws_lgEscaped.mono _ _)
      | (with_reducible exact laws_zzFits3.mono _ _)
      | (with_reducible exact spec_LgPath.mono _ _)
      | (with_reducible exact spec_LgSymbol.mono _ _ _)
      | (with_reducible exact LeO.refl _)
      | (with_reducible exact LeO.none _)
      | (with_reducible refine LeO.ite ?_ ?_)
      | (with_reducible refine LeO.bind ?_ (fun _ => ?_))
      | exact ih0 _ _ _ _ _ _ _ _ _ _ _
      | exact laws_lgEscaped.mono _ _
      | exact laws_zzFits3.mono _ _
      | exact spec_LgPath.mono _ _
      | exact spec_LgSymbol.mono _ _ _
      | exact LeO.none _
      | refine LeO.ite ?_ ?_
      | refine LeO.bind ?_ (fun _ => ?_)
def laws_FnLegacyOptions.T7 : Bool × List (List Nat × List Nat) := (true, [([], []), ([], []), ([0, 1], [0, 1]), ([], []), ([2, 3, 2], [2, 3]), ([4], [4]), ([5], [5]), ([5], [5]), ([6, 4, 0, 1, 2, 3, 4, 5, 6], [6]), ([7, 8, 0, 1, 2, 3, 4, 5, 6, 7, 8], [7])])
def laws_FnLegacyOptions.B7 : List Nat := [0, 0, 3, 0, 15, 31, 63, 63, 127, 511]
theorem laws_FnLegacyOptions.tab7 : rtab .any (opsOf Tryd.f13 7) = laws_FnLegacyOptions.T7 := by kernel_rfl
theorem laws_FnLegacyOptions.bits7 : waitsOk laws_FnLegacyOptions.T7.2 laws_FnLegacyOptions.B7 = true := by kernel_rfl
set_option maxHeartbeats 8000000 in
set_option maxRecDepth 100000 in
theorem laws_FnLegacyOptions.calls (k : Nat) (A0 : Option Addr) (c0 : Nat) (l0 : List (List Int)) (A1 : Option Addr) (c1 : Nat) (l1 : List Int) (a2_0 : Bool) (a2_1 : Bool) (a2_2 : Bool) (a2_3 : Bool) (a2_4 : Bool) (a2_5 : Bool) (a2_6 : Bool) (a2_7 : Int) (r : Bool) (w : World) (hr0 : Kd.C (Kd.slice 3 (Kd.int .i64)) w A0 l0.length l0) (hc0 : l0.length ≤ c0) (hr1 : Kd.C (Kd.int .u8) w A1 l1.length l1) (hc1 : l1.length ≤ c1) (hT_ : StrIs w) (h : laws_FnLegacyOptions.f k l0 l1 a2_0 a2_1 a2_2 a2_3 a2_4 a2_5 a2_6 a2_7 = some r) :
    Calls Tryd.prog 13 #[.slice A0 l0.length c0, .slice A1 l1.length c1, .agg #[.bool a2_0, .bool a2_1, .bool a2_2, .bool a2_3, .bool a2_4, .bool a2_5, .bool a2_6, .int .i64 a2_7]] w fun e w' => e = .returned (.bool r) ∧ Below w.heap.size w w' := by
  have hu67 := Tryd.underlying67
  have HR0 := Aside0.mk hr0
  have HC0 := Aside0.mk hc0
  clear hr0 hc0
  have HR1 := Aside0.mk hr1
  have HC1 := Aside0.mk hc1
  clear hr1 hc1
  have HB := Aside0.mk (Below.refl w.heap.size w)
  have H : ((laws_zzFits3.f k l0).bind fun t172 => (if t172 = true then (laws_FnLegacyOptions.j0 k l0 l1 (decide ((l1.length : Int) > 2147483647)) a2_0 a2_1 a2_2 a2_3 a2_4 a2_5 a2_6 a2_7) else (laws_FnLegacyOptions.j0 k l0 l1 true a2_0 a2_1 a2_2 a2_3 a2_4 a2_5 a2_6 a2_7))) = some r := h
  clear h
  have HC4 := Aside0.mk H
  clear H
  go_enter Tryd.func13, Tryd.ntmps13
  go_upto_region 1 with (first | ((with_reducible refine gate_dst (N := 5) rfl ?_); (try (refine gate_guard (by rfl) ?_; dsimp only)); refine box_event ?hg (N := 5) ?hd (cs := #[.bool a2_0, .bool a2_1, .bool a2_2, .bool a2_3, .bool a2_4, .bool a2_5, .bool a2_6, .int .i64 a2_7]) (t := 67) ?hr ?_; (case hd => rfl); (case hg => rfl); (case hr => first | (go_simp; done) | (go_simp; rfl)); intro gb171 hg w5 hbox hb; have n0_ := Aside0.mk (below_step (by repeat (first | (with_reducible first | exact HB.out | apply below_alloc | apply pw_below_drewN | apply below_drew1) | exact HB.out)) hb); have n1_ := Aside0.mk (hbox); have n2_ := Aside0.mk ((by rw [hg]; exact (below_size (by repeat (first | (with_reducible first | exact HB.out | apply below_alloc | apply pw_below_drewN | apply below_drew1) | exact HB.out))) : w.heap.size ≤ gb171)); have n3_ := Aside0.mk ((by rw [hg]; exact (below_size (by repeat (first | (with_reducible first | exact HB.out | apply below_alloc | apply pw_below_drewN | apply below_drew1) | exact HB.out))) : w.heap.size ≤ gb171)); clear HB; have HB := n0_; have BK171 := n1_; have GW171 := n2_; have GE171 := n3_; clear n0_ n1_ n2_ n3_; clear hb hbox hg))
  (try simp only [Act.put, List.setIfInBounds_toArray, List.set_cons_zero, List.set_cons_succ])
  go_cut [20] (fun v20 wc => ∃ (kq : Nat) (x20_3 : Bool), v20 = .bool x20_3 ∧ Aside0 (laws_FnLegacyOptions.j0 kq l0 l1 x20_3 a2_0 a2_1 a2_2 a2_3 a2_4 a2_5 a2_6 a2_7 = some r) ∧ Aside0 (kq ≤ k) ∧ Aside0 (wc.heap[gb171]? = some (.cells #[.bool a2_0, .bool a2_1, .bool a2_2, .bool a2_3, .bool a2_4, .bool a2_5, .bool a2_6, .int .i64 a2_7] 67 (0, 0))) ∧ Aside0 (Below w.heap.size w wc))
  case first =>
    have H := HC4.out
    clear HC4
    replace H := Option.bind_eq_some_iff.mp H
    obtain ⟨t172, A60, H⟩ := H
    replace H : (if t172 = true then (laws_FnLegacyOptions.j0 k l0 l1 (decide ((l1.length : Int) > 2147483647)) a2_0 a2_1 a2_2 a2_3 a2_4 a2_5 a2_6 a2_7) else (laws_FnLegacyOptions.j0 k l0 l1 true a2_0 a2_1 a2_2 a2_3 a2_4 a2_5 a2_6 a2_7)) = some r := H
    have A6 := Aside0.mk A60
    clear A60
    by_cases c7 : t172 = true
    · subst c7
      have H1 : (laws_FnLegacyOptions.j0 k l0 l1 (decide ((l1.length : Int) > 2147483647)) a2_0 a2_1 a2_2 a2_3 a2_4 a2_5 a2_6 a2_7) = some r := by rw [if_pos rfl] at H; exact H
      clear H
      have H := H1
      clear H1
      have H' := Aside0.mk H
      clear H
      go_wp2_with (first | (go_at_call 32; refine (idCut_at _ _ _ _ _ _ (by assumption) (by assumption)).mono ?_; rintro e w_ ⟨rfl, rfl⟩) | ((with_reducible refine gate_callee (f := 26) rfl ?_); refine goesL_ (some 14) rfl rfl Tryd.func26 (by kernel_rfl) rfl #[.slice A0 l0.length c0] rfl (by (try simp only [List.map_toArray, List.map_cons, List.map_nil]); first | done | rfl | (simp only [List.length_drop, List.length_take]; rfl)) ?_; (with_reducible refine (laws_zzFits3.calls k _ _ l0 true _ ?side1 ?side2 A6.out).mono ?_); (case side1 => repeat (first | exact (Kd.C_below HR0.out HB.out) | (with_reducible refine Kd.C_alloc ?_ _) | (with_reducible refine Kd.C_drewN ?_ _) | (with_reducible refine Kd.C_drew ?_))); (case side2 => exact HC0.out); rintro e w' ⟨rfl, ⟨nd, rfl⟩⟩; refine ⟨_, rfl, ?_⟩))
      go_meet
      case rel => exact ⟨_, (decide ((l1.length : Int) > 2147483647)), (by first | rfl | (simp; done) | (simp [*]; done)), H', ⟨by first | omega | exact Nat.le_refl _⟩, ⟨by (with_reducible repeat (first | refine blk_drewN ?_ _ | refine blk_drew ?_ | refine blk_alloc ?_ _)); exact BK171.out⟩, ⟨by repeat (first | (with_reducible first | exact HB.out | apply below_alloc | apply pw_below_drewN | apply below_drew1 | refine below_set ?_ GE171.out) | exact HB.out)⟩⟩
    · replace c7 := Bool.eq_false_iff.mpr c7
      subst c7
      have H1 : (laws_FnLegacyOptions.j0 k l0 l1 true a2_0 a2_1 a2_2 a2_3 a2_4 a2_5 a2_6 a2_7) = some r := by rw [if_neg (show ¬ (false = true) by decide)] at H; exact H
      clear H
      have H := H1
      clear H1
      have H' := Aside0.mk H
      clear H
      go_wp2_with (first | (go_at_call 32; refine (idCut_at _ _ _ _ _ _ (by assumption) (by assumption)).mono ?_; rintro e w_ ⟨rfl, rfl⟩) | ((with_reducible refine gate_callee (f := 26) rfl ?_); refine goesL_ (some 14) rfl rfl Tryd.func26 (by kernel_rfl) rfl #[.slice A0 l0.length c0] rfl (by (try simp only [List.map_toArray, List.map_cons, List.map_nil]); first | done | rfl | (simp only [List.length_drop, List.length_take]; rfl)) ?_; (with_reducible refine (laws_zzFits3.calls k _ _ l0 false _ ?side1 ?side2 A6.out).mono ?_); (case side1 => repeat (first | exact (Kd.C_below HR0.out HB.out) | (with_reducible refine Kd.C_alloc ?_ _) | (with_reducible refine Kd.C_drewN ?_ _) | (with_reducible refine Kd.C_drew ?_))); (case side2 => exact HC0.out); rintro e w' ⟨rfl, ⟨nd, rfl⟩⟩; refine ⟨_, rfl, ?_⟩))
      go_meet
      case rel => exact ⟨_, (true), (by first | rfl | (simp; done) | (simp [*]; done)), H', ⟨by first | omega | exact Nat.le_refl _⟩, ⟨by (with_reducible repeat (first | refine blk_drewN ?_ _ | refine blk_drew ?_ | refine blk_alloc ?_ _)); exact BK171.out⟩, ⟨by repeat (first | (with_reducible first | exact HB.out | apply below_alloc | apply pw_below_drewN | apply below_drew1 | refine below_set ?_ GE171.out) | exact HB.out)⟩⟩
  case rest =>
    clear HC4
    try clear c1
    try clear c2
    try clear p2
    try clear c7
    obtain ⟨kq, x20_3, rfl, HA, HJ3, BK171, HB⟩ := hcut
    cases kq with
    | zero => exact absurd HA.out (by simp [laws_FnLegacyOptions.j0])
    | succ kj3 =>
      have H := HA.out
      clear HA
      simp only [laws_FnLegacyOptions.j0] at H
      by_cases c8 : x20_3 = true
      · subst c8
        have H1 : (some true) = some r := by rw [if_pos rfl] at H; exact H
        clear H
        have H := H1
        clear H1
        obtain rfl := Option.some.inj H
        go_wp2
        go_ret
        exact ⟨by first | rfl | (simp [errW_none, errW_some] <;> rfl) | (simp [*, errW_none, errW_some] <;> rfl), by repeat (first | (with_reducible first | exact HB.out | apply below_alloc | apply pw_below_drewN | apply below_drew1 | refine below_set ?_ GE171.out) | exact HB.out)⟩
      · replace c8 := Bool.eq_false_iff.mpr c8
        subst c8
        have H1 : ((laws_lgEscaped.f kj3 l0).bind fun bt173 => ((laws_lgHash.f l1).bind fun bt179 => ((spec_LgSymbol.f kj3 bt173.1 bt179.1).bind fun t181 => ((impl_Old.f t181 a2_0 a2_1 a2_2 a2_3 a2_4 false a2_6 0).bind fun bt182 => (if bt179.2 = true then (if bt182.2 = true then ((spec_LgPath.f kj3 bt173.2).bind fun t184 => (some (bt182.1.toList == t184.toList))) else (some false)) else (some true)))))) = some r := by rw [if_neg (show ¬ (false = true) by decide)] at H; exact H
        clear H
        have H := H1
        clear H1
        replace H := Option.bind_eq_some_iff.mp H
        obtain ⟨⟨t173, t174⟩, A90, H⟩ := H
        replace H : ((laws_lgHash.f l1).bind fun bt179 => ((spec_LgSymbol.f kj3 t173 bt179.1).bind fun t181 => ((impl_Old.f t181 a2_0 a2_1 a2_2 a2_3 a2_4 false a2_6 0).bind fun bt182 => (if bt179.2 = true then (if bt182.2 = true then ((spec_LgPath.f kj3 t174).bind fun t184 => (some (bt182.1.toList == t184.toList))) else (some false)) else (some true))))) = some r := H
        have A9 := Aside0.mk A90
        clear A90
        replace H := Option.bind_eq_some_iff.mp H
        obtain ⟨⟨t179, t180⟩, A100, H⟩ := H
        replace H : ((spec_LgSymbol.f kj3 t173 t179).bind fun t181 => ((impl_Old.f t181 a2_0 a2_1 a2_2 a2_3 a2_4 false a2_6 0).bind fun bt182 => (if t180 = true then (if bt182.2 = true then ((spec_LgPath.f kj3 t174).bind fun t184 => (some (bt182.1.toList == t184.toList))) else (some false)) else (some true)))) = some r := H
        have A10 := Aside0.mk A100
        clear A100
        replace H := Option.bind_eq_some_iff.mp H
        obtain ⟨t181, A110, H⟩ := H
        replace H : ((impl_Old.f t181 a2_0 a2_1 a2_2 a2_3 a2_4 false a2_6 0).bind fun bt182 => (if t180 = true then (if bt182.2 = true then ((spec_LgPath.f kj3 t174).bind fun t184 => (some (bt182.1.toList == t184.toList))) else (some false)) else (some true))) = some r := H
        have A11 := Aside0.mk A110
        clear A110
        replace H := Option.bind_eq_some_iff.mp H
        obtain ⟨⟨t182, t183⟩, A120, H⟩ := H
        replace H : (if t180 = true then (if t183 = true then ((spec_LgPath.f kj3 t174).bind fun t184 => (some (t182.toList == t184.toList))) else (some false)) else (some true)) = some r := H
        have A12 := Aside0.mk A120
        clear A120
        by_cases c13 : t180 = true
        · subst c13
          have H1 : (if t183 = true then ((spec_LgPath.f kj3 t174).bind fun t184 => (some (t182.toList == t184.toList))) else (some false)) = some r := by rw [if_pos rfl] at H; exact H
          clear H
          have H := H1
          clear H1
          by_cases c14 : t183 = true
          · subst c14
            have H1 : ((spec_LgPath.f kj3 t174).bind fun t184 => (some (t182.toList == t184.toList))) = some r := by rw [if_pos rfl] at H; exact H
            clear H
            have H := H1
            clear H1
            replace H := Option.bind_eq_some_iff.mp H
            obtain ⟨t184, A150, H⟩ := H
            replace H : (some (t182.toList == t184.toList)) = some r := H
            have A15 := Aside0.mk A150
            clear A150
            obtain rfl := Option.some.inj H
            have hcz16_0 : wc.cell? ⟨gb171, 0, none⟩ = some (.bool a2_0) := (blk_cell BK171.out 0).trans rfl
            have hcz16_1 : wc.cell? ⟨gb171, 1, none⟩ = some (.bool a2_1) := (blk_cell BK171.out 1).trans rfl
            have hcz16_2 : wc.cell? ⟨gb171, 2, none⟩ = some (.bool a2_2) := (blk_cell BK171.out 2).trans rfl
            have hcz16_3 : wc.cell? ⟨gb171, 3, none⟩ = some (.bool a2_3) := (blk_cell BK171.out 3).trans rfl
            have hcz16_4 : wc.cell? ⟨gb171, 4, none⟩ = some (.bool a2_4) := (blk_cell BK171.out 4).trans rfl
            have hcz16_5 : wc.cell? ⟨gb171, 5, none⟩ = some (.bool a2_5) := (blk_cell BK171.out 5).trans rfl
            have hcz16_6 : wc.cell? ⟨gb171, 6, none⟩ = some (.bool a2_6) := (blk_cell BK171.out 6).trans rfl
            have hcz16_7 : wc.cell? ⟨gb171, 7, none⟩ = some (.int .i64 a2_7) := (blk_cell BK171.out 7).trans rfl
            have hfz16_0 := blk_frozen BK171.out 0
            have hfz16_1 := blk_frozen BK171.out 1
            have hfz16_2 := blk_frozen BK171.out 2
            have hfz16_3 := blk_frozen BK171.out 3
            have hfz16_4 := blk_frozen BK171.out 4
            have hfz16_5 := blk_frozen BK171.out 5
            have hfz16_6 := blk_frozen BK171.out 6
            have hfz16_7 := blk_frozen BK171.out 7
            try go_wp2_with (first | (go_at_call 32; refine (idCut_at _ _ _ _ _ _ (by assumption) (by assumption)).mono ?_; rintro e w_ ⟨rfl, rfl⟩) | ((with_reducible refine gate_callee (f := 27) rfl ?_); refine goesL_ (some 25) rfl rfl Tryd.func27 (by kernel_rfl) rfl #[.slice A0 l0.length c0] rfl (by (try simp only [List.map_toArray, List.map_cons, List.map_nil]); first | done | rfl | (simp only [List.length_drop, List.length_take]; rfl)) ?_; (with_reducible refine (laws_lgEscaped.calls kj3 _ _ l0 t173 t174 _ ?side1 ?side2 A9.out).mono ?_); (case side1 => exact Kd.C_below HR0.out (by repeat (first | (with_reducible first | exact HB.out | apply below_alloc | apply pw_below_drewN | apply below_drew1 | refine below_set ?_ GE171.out) | exact HB.out))); (case side2 => exact HC0.out); rintro e w17 ⟨v175, v177, rfl, ho0, ho1, hb⟩; refine ⟨_, rfl, ?_⟩; have n0_ := Aside0.mk (Kd.R_lower ho0 (below_size (by repeat (first | (with_reducible first | exact HB.out | apply below_alloc | apply pw_below_drewN | apply below_drew1 | refine below_set ?_ GE171.out) | exact HB.out)))); have n1_ := Aside0.mk (Kd.R_lower ho1 (below_size (by repeat (first | (with_reducible first | exact HB.out | apply below_alloc | apply pw_below_drewN | apply below_drew1 | refine below_set ?_ GE171.out) | exact HB.out)))); have n2_ := Aside0.mk (blk_below (g := gb171) (o := .cells #[.bool a2_0, .bool a2_1, .bool a2_2, .bool a2_3, .bool a2_4, .bool false, .bool a2_6, .int .i64 0] 67 (0, 0)) (by (with_reducible repeat (first | refine blk_drewN ?_ _ | refine blk_drew ?_ | refine blk_alloc ?_ _)); refine blk_put (cs := #[.bool a2_0, .bool a2_1, .bool a2_2, .bool a2_3, .bool a2_4, .bool a2_5, .bool a2_6, .int .i64 0]) ?_ 5 _ rfl; (with_reducible repeat (first | refine blk_drewN ?_ _ | refine blk_drew ?_ | refine blk_alloc ?_ _)); refine blk_put (cs := #[.bool a2_0, .bool a2_1, .bool a2_2, .bool a2_3, .bool a2_4, .bool a2_5, .bool a2_6, .int .i64 a2_7]) ?_ 7 _ rfl; (with_reducible repeat (first | refine blk_drewN ?_ _ | refine blk_drew ?_ | refine blk_alloc ?_ _)); exact BK171.out) hb); have n3_ := Aside0.mk (below_step (by repeat (first | (with_reducible first | exact HB.out | apply below_alloc | apply pw_below_drewN | apply below_drew1 | refine below_set ?_ GE171.out) | exact HB.out)) hb); clear BK171; clear HB; have HO176 := n0_; have HO178 := n1_; have BK171 := n2_; have HB := n3_; clear n0_ n1_ n2_ n3_; (try clear hb); (try clear hb2); (try clear hk); (try clear hi); (try clear ho0); (try clear ho1)) | ((with_reducible refine gate_callee (f := 28) rfl ?_); refine goesL_ (some 30) rfl rfl Tryd.func28 (by kernel_rfl) rfl #[.slice A1 l1.length c1] rfl (by (try simp only [List.map_toArray, List.map_cons, List.map_nil]); first | done | rfl | (simp only [List.length_drop, List.length_take]; rfl)) ?_; (with_reducible refine (laws_lgHash.calls _ _ l1 t179 true _ ?side1 ?side2 A10.out).mono ?_); (case side1 => repeat (first | exact (Kd.C_below HR1.out HB.out) | (with_reducible refine Kd.C_alloc ?_ _) | (with_reducible refine Kd.C_drewN ?_ _) | (with_reducible refine Kd.C_drew ?_))); (case side2 => exact HC1.out); rintro e w18 ⟨rfl, hb⟩; refine ⟨_, rfl, ?_⟩; have n0_ := Aside0.mk (Kd.R_below (by (with_reducible repeat (first | apply Kd.R_alloc | apply Kd.R_drewN | apply Kd.R_drew)); exact HO176.out) hb); have n1_ := Aside0.mk (Kd.R_below (by (with_reducible repeat (first | apply Kd.R_alloc | apply Kd.R_drewN | apply Kd.R_drew)); exact HO178.out) hb); have n2_ := Aside0.mk (blk_below (g := gb171) (o := .cells #[.bool a2_0, .bool a2_1, .bool a2_2, .bool a2_3, .bool a2_4, .bool false, .bool a2_6, .int .i64 0] 67 (0, 0)) (by (with_reducible repeat (first | refine blk_drewN ?_ _ | refine blk_drew ?_ | refine blk_alloc ?_ _)); exact BK171.out) hb); have n3_ := Aside0.mk (below_step (by repeat (first | (with_reducible first | exact HB.out | apply below_alloc | apply pw_below_drewN | apply below_drew1 | refine below_set ?_ GE171.out) | exact HB.out)) hb); clear HO176; clear HO178; clear BK171; clear HB; have HO176 := n0_; have HO178 := n1_; have BK171 := n2_; have HB := n3_; clear n0_ n1_ n2_ n3_; (try clear hb); (try clear hb2); (try clear hk); (try clear hi)))
            have n0_ := Aside0.mk (Kd.R_drew HO176.out)
            have n1_ := Aside0.mk (Kd.R_drew HO178.out)
            have n2_ := Aside0.mk (blk_drew BK171.out)
            have n3_ := Aside0.mk (below_drew1 HB.out)
            clear HO176
            clear HO178
            clear BK171
            clear HB
            have HO176 := n0_
            have HO178 := n1_
            have BK171 := n2_
            have HB := n3_
            clear n0_ n1_ n2_ n3_
            obtain ⟨Ao20, co20, eo20⟩ := Kd.R_slice HO176.out
            (first | subst eo20 | (injection eo20 with f1_ f2_ f3_; have f4_ := f1_.symm; have f5_ := f3_.symm; clear f1_ f2_ f3_; subst f4_; subst f5_))
            refine start_ (n := 10) (S := fun w' => w'.cell? ⟨gb171, 0, none⟩ = some (.bool a2_0) ∧ w'.cell? ⟨gb171, 1, none⟩ = some (.bool a2_1) ∧ w'.cell? ⟨gb171, 2, none⟩ = some (.bool a2_2) ∧ w'.cell? ⟨gb171, 3, none⟩ = some (.bool a2_3) ∧ w'.cell? ⟨gb171, 4, none⟩ = some (.bool a2_4) ∧ w'.cell? ⟨gb171, 5, none⟩ = some (.bool false) ∧ w'.cell? ⟨gb171, 6, none⟩ = some (.bool a2_6) ∧ w'.cell? ⟨gb171, 7, none⟩ = some (.int .i64 0)) (ds := []) #[false, false, false, false, false, false, false, false, false, false] (by kernel_rfl) rfl rfl ⟨(blk_cell BK171.out 0).trans rfl, (blk_cell BK171.out 1).trans rfl, (blk_cell BK171.out 2).trans rfl, (blk_cell BK171.out 3).trans rfl, (blk_cell BK171.out 4).trans rfl, (blk_cell BK171.out 5).trans rfl, (blk_cell BK171.out 6).trans rfl, (blk_cell BK171.out 7).trans rfl⟩ (fun hHeld => ?_); refine with_tabW laws_FnLegacyOptions.tab7 laws_FnLegacyOptions.bits7 (fun HT_ HW_ => ?_)
            generalize w18.drew = w19 at HO176 HO178 BK171 HB hHeld ⊢
            refine pure_ (i := 0) (N := some 34) (v := ?_) (a' := ?_) #[true, false, false, false, false, false, false, false, false, false] rfl rfl (any_of HT_.out (by kernel_rfl)) (fun _ _ _ h => h) (Or.inl ⟨by rfl, ?_⟩) ?_ ?_
            rotate_left
            · intro w'
              go_simp
              with_reducible rfl
            rotate_left
            · simp only [Act.put, List.setIfInBounds_toArray, List.set_cons_zero, List.set_cons_succ, i64_w, i32_w]
              rfl
            refine pure_ (i := 1) (N := some 35) (v := ?_) (a' := ?_) #[true, true, false, false, false, false, false, false, false, false] rfl rfl (any_of HT_.out (by kernel_rfl)) (fun _ _ _ h => h) (Or.inl ⟨by rfl, ?_⟩) ?_ ?_
            rotate_left
            · intro w'
              go_simp
              with_reducible rfl
            rotate_left
            · simp only [Act.put, List.setIfInBounds_toArray, List.set_cons_zero, List.set_cons_succ, i64_w, i32_w]
              rfl
            refine take_ (i := 3) (N := some 37) (v := ?_) (a' := ?_) #[true, true, false, true, false, false, false, false, false, false] rfl rfl (take_ofW HT_.out HW_.out (by kernel_rfl)) (fun _ _ _ h => h) (Or.inl ⟨by rfl, ?_⟩) hHeld ?_ ?_
            rotate_left
            · rintro w' ⟨s0, s1, s2, s3, s4, s5, s6, s7⟩
              go_simp
              with_reducible rfl
            rotate_left
            · simp only [Act.put, List.setIfInBounds_toArray, List.set_cons_zero, List.set_cons_succ, i64_w, i32_w]
              rfl
            refine one_ (i := 2) (N := some 36) #[true, true, true, true, false, false, false, false, false, false] rfl rfl (one_of HT_.out (by kernel_rfl)) (by decide) (fun K hK => ?_)
            refine goes_ Tryd.func38 (by kernel_rfl) rfl #[.slice Ao20 t173.length co20, .string t179] (by rfl) rfl rfl (by (try simp only [List.map_toArray, List.map_cons, List.map_nil]); first | done | rfl | (simp only [List.length_drop, List.length_take]; rfl)) ?_
            with_reducible refine (spec_LgSymbol.calls kj3 _ _ t173 t179 t181 _ ?side1 ?side2 (show StrIs _ from ?side3) A11.out).mono ?_
            (case side1 => repeat (first | exact (Kd.R_reads' HO176.out).2.2 | (with_reducible refine Kd.C_alloc ?_ _) | (with_reducible refine Kd.C_drewN ?_ _) | (with_reducible refine Kd.C_drew ?_)))
            (case side2 => exact (Kd.R_reads' HO176.out).2.1)
            (case side3 => exact Stays.below hT_ (by first | (repeat (first | (with_reducible first | exact HB.out | apply below_alloc | apply pw_below_drewN | apply below_drew1 | refine below_set ?_ GE171.out) | exact HB.out)) | (repeat (first | exact Below.refl _ _ | apply below_drew1 | apply pw_below_drewN))))
            rintro e w21 ⟨rfl, hb⟩
            refine ⟨_, rfl, ?_⟩
            have n0_ := Aside0.mk (Kd.R_below (by (with_reducible repeat (first | apply Kd.R_alloc | apply Kd.R_drewN | apply Kd.R_drew)); exact HO176.out) hb)
            have n1_ := Aside0.mk (Kd.R_below (by (with_reducible repeat (first | apply Kd.R_alloc | apply Kd.R_drewN | apply Kd.R_drew)); exact HO178.out) hb)
            have n2_ := Aside0.mk (blk_below (g := gb171) (o := .cells #[.bool a2_0, .bool a2_1, .bool a2_2, .bool a2_3, .bool a2_4, .bool false, .bool a2_6, .int .i64 0] 67 (0, 0)) (by (with_reducible repeat (first | refine blk_drewN ?_ _ | refine blk_drew ?_ | refine blk_alloc ?_ _)); exact BK171.out) hb)
            have n3_ := Aside0.mk (below_step (by repeat (first | (with_reducible first | exact HB.out | apply below_alloc | apply pw_below_drewN | apply below_drew1 | refine below_set ?_ GE171.out) | exact HB.out)) hb)
            clear HO176
            clear HO178
            clear BK171
            clear HB
            have HO176 := n0_
            have HO178 := n1_
            have BK171 := n2_
            have HB := n3_
            clear n0_ n1_ n2_ n3_
            (try clear hb)
            (try clear hb2)
            (try clear hk)
            (try clear hi)
            refine hK.out _ _ ⟨(blk_cell BK171.out 0).trans rfl, (blk_cell BK171.out 1).trans rfl, (blk_cell BK171.out 2).trans rfl, (blk_cell BK171.out 3).trans rfl, (blk_cell BK171.out 4).trans rfl, (blk_cell BK171.out 5).trans rfl, (blk_cell BK171.out 6).trans rfl, (blk_cell BK171.out 7).trans rfl⟩ (fun hHeld => ?_)
            clear hK K
            refine norm_ (a' := ?_) ?_ ?_
            rotate_left
            · show Act.put _ (some 36) _ = _
              simp only [Act.put, List.setIfInBounds_toArray, List.set_cons_zero, List.set_cons_succ, i64_w, i32_w]
              rfl
            refine one_ (i := 4) (N := some 38) #[true, true, true, true, true, false, false, false, false, false] rfl rfl (one_of HT_.out (by kernel_rfl)) (by decide) (fun K hK => ?_)
            refine goes_ Tryd.func37 (by kernel_rfl) rfl #[.string t181, .agg #[.bool a2_0, .bool a2_1, .bool a2_2, .bool a2_3, .bool a2_4, .bool false, .bool a2_6, .int .i64 0]] (by rfl) rfl rfl (by (try simp only [List.map_toArray, List.map_cons, List.map_nil]); first | done | rfl | (simp only [List.length_drop, List.length_take]; rfl)) ?_
            with_reducible refine (impl_Old.calls t181 a2_0 a2_1 a2_2 a2_3 a2_4 false a2_6 0 t182 true _ A12.out).mono ?_
            rintro e w22 ⟨rfl, hb⟩
            refine ⟨_, rfl, ?_⟩
            have n0_ := Aside0.mk (Kd.R_below (by (with_reducible repeat (first | apply Kd.R_alloc | apply Kd.R_drewN | apply Kd.R_drew)); exact HO176.out) hb)
            have n1_ := Aside0.mk (Kd.R_below (by (with_reducible repeat (first | apply Kd.R_alloc | apply Kd.R_drewN | apply Kd.R_drew)); exact HO178.out) hb)
            have n2_ := Aside0.mk (blk_below (g := gb171) (o := .cells #[.bool a2_0, .bool a2_1, .bool a2_2, .bool a2_3, .bool a2_4, .bool false, .bool a2_6, .int .i64 0] 67 (0, 0)) (by (with_reducible repeat (first | refine blk_drewN ?_ _ | refine blk_drew ?_ | refine blk_alloc ?_ _)); exact BK171.out) hb)
            have n3_ := Aside0.mk (below_step (by repeat (first | (with_reducible first | exact HB.out | apply below_alloc | apply pw_below_drewN | apply below_drew1 | refine below_set ?_ GE171.out) | exact HB.out)) hb)
            clear HO176
            clear HO178
            clear BK171
            clear HB
            have HO176 := n0_
            have HO178 := n1_
            have BK171 := n2_
            have HB := n3_
            clear n0_ n1_ n2_ n3_
            (try clear hb)
            (try clear hb2)
            (try clear hk)
            (try clear hi)
            refine hK.out _ _ ⟨(blk_cell BK171.out 0).trans rfl, (blk_cell BK171.out 1).trans rfl, (blk_cell BK171.out 2).trans rfl, (blk_cell BK171.out 3).trans rfl, (blk_cell BK171.out 4).trans rfl, (blk_cell BK171.out 5).trans rfl, (blk_cell BK171.out 6).trans rfl, (blk_cell BK171.out 7).trans rfl⟩ (fun hHeld => ?_)
            clear hK K
            refine norm_ (a' := ?_) ?_ ?_
            rotate_left
            · show Act.put _ (some 38) _ = _
              simp only [Act.put, List.setIfInBounds_toArray, List.set_cons_zero, List.set_cons_succ, i64_w, i32_w]
              rfl
            refine pure_ (i := 5) (N := some 33) (v := ?_) (a' := ?_) #[true, true, true, true, true, true, false, false, false, false] rfl rfl (any_of HT_.out (by kernel_rfl)) (fun _ _ _ h => h) (Or.inl ⟨by rfl, ?_⟩) ?_ ?_
            rotate_left
            · intro w'
              go_simp
              with_reducible rfl
            rotate_left
            · simp only [Act.put, List.setIfInBounds_toArray, List.set_cons_zero, List.set_cons_succ, i64_w, i32_w]
              rfl
            refine pure_ (i := 6) (N := some 39) (v := ?_) (a' := ?_) #[true, true, true, true, true, true, true, false, false, false] rfl rfl (any_of HT_.out (by kernel_rfl)) (fun _ _ _ h => h) (Or.inl ⟨by rfl, ?_⟩) ?_ ?_
            rotate_left
            · intro w'
              go_simp
              with_reducible rfl
            rotate_left
            · simp only [Act.put, List.setIfInBounds_toArray, List.set_cons_zero, List.set_cons_succ, i64_w, i32_w]
              rfl
            refine pure_ (i := 7) (N := some 40) (v := ?_) (a' := ?_) #[true, true, true, true, true, true, true, true, false, false] rfl rfl (any_of HT_.out (by kernel_rfl)) (fun _ _ _ h => h) (Or.inl ⟨by rfl, ?_⟩) ?_ ?_
            rotate_left
            · intro w'
              go_simp
              with_reducible rfl
            rotate_left
            · simp only [Act.put, List.setIfInBounds_toArray, List.set_cons_zero, List.set_cons_succ, i64_w, i32_w]
              rfl
            refine pure_ (i := 8) (N := some 11) (v := ?_) (a' := ?_) #[true, true, true, true, true, true, true, true, true, false] rfl rfl (any_of HT_.out (by kernel_rfl)) (fun _ _ _ h => h) (Or.inl ⟨by rfl, ?_⟩) ?_ ?_
            rotate_left
            · intro w'
              go_simp
              with_reducible rfl
            rotate_left
            · simp only [Act.put, List.setIfInBounds_toArray, List.set_cons_zero, List.set_cons_succ, i64_w, i32_w]
              rfl
            refine pure_ (i := 9) (N := some 12) (v := ?_) (a' := ?_) #[true, true, true, true, true, true, true, true, true, true] rfl rfl (any_of HT_.out (by kernel_rfl)) (fun _ _ _ h => h) (Or.inl ⟨by rfl, ?_⟩) ?_ ?_
            rotate_left
            · intro w'
              go_simp
              with_reducible rfl
            rotate_left
            · simp only [Act.put, List.setIfInBounds_toArray, List.set_cons_zero, List.set_cons_succ, i64_w, i32_w]
              rfl
            refine done_ (done_of HT_.out (by kernel_rfl)) ?_
            obtain ⟨Ao23, co23, eo23⟩ := Kd.R_slice HO178.out
            subst eo23
            try go_wp2_with (first | (go_at_call 32; refine (idCut_at _ _ _ _ _ _ (by assumption) (by assumption)).mono ?_; rintro e w_ ⟨rfl, rfl⟩) | (go_at_call 30; (with_reducible refine (spec_LgPath.calls kj3 _ _ t174 t184 _ ?side1 ?side2 A15.out).mono ?_); (case side1 => repeat (first | exact (Kd.R_reads' HO178.out).2.2 | (with_reducible refine Kd.C_alloc ?_ _) | (with_reducible refine Kd.C_drewN ?_ _) | (with_reducible refine Kd.C_drew ?_))); (case side2 => exact (Kd.R_reads' HO178.out).2.1); rintro e w' ⟨rfl, ⟨nd, rfl⟩⟩))
            go_ret
            exact ⟨by first | rfl | (simp [errW_none, errW_some] <;> rfl) | (simp [*, errW_none, errW_some] <;> rfl), by repeat (first | (with_reducible first | exact HB.out | apply below_alloc | apply pw_below_drewN | apply below_drew1 | refine below_set ?_ GE171.out) | exact HB.out)⟩
          · replace c14 := Bool.eq_false_iff.mpr c14
            subst c14
            have H1 : (some false) = some r := by rw [if_neg (show ¬ (false = true) by decide)] at H; exact H
            clear H
            have H := H1
            clear H1
            obtain rfl := Option.some.inj H
            have hcz24_0 : wc.cell? ⟨gb171, 0, none⟩ = some (.bool a2_0) := (blk_cell BK171.out 0).trans rfl
            have hcz24_1 : wc.cell? ⟨gb171, 1, none⟩ = some (.bool a2_1) := (blk_cell BK171.out 1).trans rfl
            have hcz24_2 : wc.cell? ⟨gb171, 2, none⟩ = some (.bool a2_2) := (blk_cell BK171.out 2).trans rfl
            have hcz24_3 : wc.cell? ⟨gb171, 3, none⟩ = some (.bool a2_3) := (blk_cell BK171.out 3).trans rfl
            have hcz24_4 : wc.cell? ⟨gb171, 4, none⟩ = some (.bool a2_4) := (blk_cell BK171.out 4).trans rfl
            have hcz24_5 : wc.cell? ⟨gb171, 5, none⟩ = some (.bool a2_5) := (blk_cell BK171.out 5).trans rfl
            have hcz24_6 : wc.cell? ⟨gb171, 6, none⟩ = some (.bool a2_6) := (blk_cell BK171.out 6).trans rfl
            have hcz24_7 : wc.cell? ⟨gb171, 7, none⟩ = some (.int .i64 a2_7) := (blk_cell BK171.out 7).trans rfl
            have hfz24_0 := blk_frozen BK171.out 0
            have hfz24_1 := blk_frozen BK171.out 1
            have hfz24_2 := blk_frozen BK171.out 2
            have hfz24_3 := blk_frozen BK171.out 3
            have hfz24_4 := blk_frozen BK171.out 4
            have hfz24_5 := blk_frozen BK171.out 5
            have hfz24_6 := blk_frozen BK171.out 6
            have hfz24_7 := blk_frozen BK171.out 7
            try go_wp2_with (first | (go_at_call 32; refine (idCut_at _ _ _ _ _ _ (by assumption) (by assumption)).mono ?_; rintro e w_ ⟨rfl, rfl⟩) | ((with_reducible refine gate_callee (f := 27) rfl ?_); refine goesL_ (some 25) rfl rfl Tryd.func27 (by kernel_rfl) rfl #[.slice A0 l0.length c0] rfl (by (try simp only [List.map_toArray, List.map_cons, List.map_nil]); first | done | rfl | (simp only [List.length_drop, List.length_take]; rfl)) ?_; (with_reducible refine (laws_lgEscaped.calls kj3 _ _ l0 t173 t174 _ ?side1 ?side2 A9.out).mono ?_); (case side1 => exact Kd.C_below HR0.out (by repeat (first | (with_reducible first | exact HB.out | apply below_alloc | apply pw_below_drewN | apply below_drew1 | refine below_set ?_ GE171.out) | exact HB.out))); (case side2 => exact HC0.out); rintro e w25 ⟨v175, v177, rfl, ho0, ho1, hb⟩; refine ⟨_, rfl, ?_⟩; have n0_ := Aside0.mk (Kd.R_lower ho0 (below_size (by repeat (first | (with_reducible first | exact HB.out | apply below_alloc | apply pw_below_drewN | apply below_drew1 | refine below_set ?_ GE171.out) | exact HB.out)))); have n1_ := Aside0.mk (Kd.R_lower ho1 (below_size (by repeat (first | (with_reducible first | exact HB.out | apply below_alloc | apply pw_below_drewN | apply below_drew1 | refine below_set ?_ GE171.out) | exact HB.out)))); have n2_ := Aside0.mk (blk_below (g := gb171) (o := .cells #[.bool a2_0, .bool a2_1, .bool a2_2, .bool a2_3, .bool a2_4, .bool false, .bool a2_6, .int .i64 0] 67 (0, 0)) (by (with_reducible repeat (first | refine blk_drewN ?_ _ | refine blk_drew ?_ | refine blk_alloc ?_ _)); refine blk_put (cs := #[.bool a2_0, .bool a2_1, .bool a2_2, .bool a2_3, .bool a2_4, .bool a2_5, .bool a2_6, .int .i64 0]) ?_ 5 _ rfl; (with_reducible repeat (first | refine blk_drewN ?_ _ | refine blk_drew ?_ | refine blk_alloc ?_ _)); refine blk_put (cs := #[.bool a2_0, .bool a2_1, .bool a2_2, .bool a2_3, .bool a2_4, .bool a2_5, .bool a2_6, .int .i64 a2_7]) ?_ 7 _ rfl; (with_reducible repeat (first | refine blk_drewN ?_ _ | refine blk_drew ?_ | refine blk_alloc ?_ _)); exact BK171.out) hb); have n3_ := Aside0.mk (below_step (by repeat (first | (with_reducible first | exact HB.out | apply below_alloc | apply pw_below_drewN | apply below_drew1 | refine below_set ?_ GE171.out) | exact HB.out)) hb); clear BK171; clear HB; have HO176 := n0_; have HO178 := n1_; have BK171 := n2_; have HB := n3_; clear n0_ n1_ n2_ n3_; (try clear hb); (try clear hb2); (try clear hk); (try clear hi); (try clear ho0); (try clear ho1)) | ((with_reducible refine gate_callee (f := 28) rfl ?_); refine goesL_ (some 30) rfl rfl Tryd.func28 (by kernel_rfl) rfl #[.slice A1 l1.length c1] rfl (by (try simp only [List.map_toArray, List.map_cons, List.map_nil]); first | done | rfl | (simp only [List.length_drop, List.length_take]; rfl)) ?_; (with_reducible refine (laws_lgHash.calls _ _ l1 t179 true _ ?side1 ?side2 A10.out).mono ?_); (case side1 => repeat (first | exact (Kd.C_below HR1.out HB.out) | (with_reducible refine Kd.C_alloc ?_ _) | (with_reducible refine Kd.C_drewN ?_ _) | (with_reducible refine Kd.C_drew ?_))); (case side2 => exact HC1.out); rintro e w26 ⟨rfl, hb⟩; refine ⟨_, rfl, ?_⟩; have n0_ := Aside0.mk (Kd.R_below (by (with_reducible repeat (first | apply Kd.R_alloc | apply Kd.R_drewN | apply Kd.R_drew)); exact HO176.out) hb); have n1_ := Aside0.mk (Kd.R_below (by (with_reducible repeat (first | apply Kd.R_alloc | apply Kd.R_drewN | apply Kd.R_drew)); exact HO178.out) hb); have n2_ := Aside0.mk (blk_below (g := gb171) (o := .cells #[.bool a2_0, .bool a2_1, .bool a2_2, .bool a2_3, .bool a2_4, .bool false, .bool a2_6, .int .i64 0] 67 (0, 0)) (by (with_reducible repeat (first | refine blk_drewN ?_ _ | refine blk_drew ?_ | refine blk_alloc ?_ _)); exact BK171.out) hb); have n3_ := Aside0.mk (below_step (by repeat (first | (with_reducible first | exact HB.out | apply below_alloc | apply pw_below_drewN | apply below_drew1 | refine below_set ?_ GE171.out) | exact HB.out)) hb); clear HO176; clear HO178; clear BK171; clear HB; have HO176 := n0_; have HO178 := n1_; have BK171 := n2_; have HB := n3_; clear n0_ n1_ n2_ n3_; (try clear hb); (try clear hb2); (try clear hk); (try clear hi)))
            have n0_ := Aside0.mk (Kd.R_drew HO176.out)
            have n1_ := Aside0.mk (Kd.R_drew HO178.out)
            have n2_ := Aside0.mk (blk_drew BK171.out)
            have n3_ := Aside0.mk (below_drew1 HB.out)
            clear HO176
            clear HO178
            clear BK171
            clear HB
            have HO176 := n0_
            have HO178 := n1_
            have BK171 := n2_
            have HB := n3_
            clear n0_ n1_ n2_ n3_
            obtain ⟨Ao28, co28, eo28⟩ := Kd.R_slice HO176.out
            (first | subst eo28 | (injection eo28 with f1_ f2_ f3_; have f4_ := f1_.symm; have f5_ := f3_.symm; clear f1_ f2_ f3_; subst f4_; subst f5_))
            refine start_ (n := 10) (S := fun w' => w'.cell? ⟨gb171, 0, none⟩ = some (.bool a2_0) ∧ w'.cell? ⟨gb171, 1, none⟩ = some (.bool a2_1) ∧ w'.cell? ⟨gb171, 2, none⟩ = some (.bool a2_2) ∧ w'.cell? ⟨gb171, 3, none⟩ = some (.bool a2_3) ∧ w'.cell? ⟨gb171, 4, none⟩ = some (.bool a2_4) ∧ w'.cell? ⟨gb171, 5, none⟩ = some (.bool false) ∧ w'.cell? ⟨gb171, 6, none⟩ = some (.bool a2_6) ∧ w'.cell? ⟨gb171, 7, none⟩ = some (.int .i64 0)) (ds := []) #[false, false, false, false, false, false, false, false, false, false] (by kernel_rfl) rfl rfl ⟨(blk_cell BK171.out 0).trans rfl, (blk_cell BK171.out 1).trans rfl, (blk_cell BK171.out 2).trans rfl, (blk_cell BK171.out 3).trans rfl, (blk_cell BK171.out 4).trans rfl, (blk_cell BK171.out 5).trans rfl, (blk_cell BK171.out 6).trans rfl, (blk_cell BK171.out 7).trans rfl⟩ (fun hHeld => ?_); refine with_tabW laws_FnLegacyOptions.tab7 laws_FnLegacyOptions.bits7 (fun HT_ HW_ => ?_)
            generalize w26.drew = w27 at HO176 HO178 BK171 HB hHeld ⊢
            refine pure_ (i := 0) (N := some 34) (v := ?_) (a' := ?_) #[true, false, false, false, false, false, false, false, false, false] rfl rfl (any_of HT_.out (by kernel_rfl)) (fun _ _ _ h => h) (Or.inl ⟨by rfl, ?_⟩) ?_ ?_
            rotate_left
            · intro w'
              go_simp
              with_reducible rfl
            rotate_left
            · simp only [Act.put, List.setIfInBounds_toArray, List.set_cons_zero, List.set_cons_succ, i64_w, i32_w]
              rfl
            refine pure_ (i := 1) (N := some 35) (v := ?_) (a' := ?_) #[true, true, false, false, false, false, false, false, false, false] rfl rfl (any_of HT_.out (by kernel_rfl)) (fun _ _ _ h => h) (Or.inl ⟨by rfl, ?_⟩) ?_ ?_
            rotate_left
            · intro w'
              go_simp
              with_reducible rfl
            rotate_left
            · simp only [Act.put, List.setIfInBounds_toArray, List.set_cons_zero, List.set_cons_succ, i64_w, i32_w]
              rfl
            refine take_ (i := 3) (N := some 37) (v := ?_) (a' := ?_) #[true, true, false, true, false, false, false, false, false, false] rfl rfl (take_ofW HT_.out HW_.out (by kernel_rfl)) (fun _ _ _ h => h) (Or.inl ⟨by rfl, ?_⟩) hHeld ?_ ?_
            rotate_left
            · rintro w' ⟨s0, s1, s2, s3, s4, s5, s6, s7⟩
              go_simp
              with_reducible rfl
            rotate_left
            · simp only [Act.put, List.setIfInBounds_toArray, List.set_cons_zero, List.set_cons_succ, i64_w, i32_w]
              rfl
            refine one_ (i := 2) (N := some 36) #[true, true, true, true, false, false, false, false, false, false] rfl rfl (one_of HT_.out (by kernel_rfl)) (by decide) (fun K hK => ?_)
            refine goes_ Tryd.func38 (by kernel_rfl) rfl #[.slice Ao28 t173.length co28, .string t179] (by rfl) rfl rfl (by (try simp only [List.map_toArray, List.map_cons, List.map_nil]); first | done | rfl | (simp only [List.length_drop, List.length_take]; rfl)) ?_
            with_reducible refine (spec_LgSymbol.calls kj3 _ _ t173 t179 t181 _ ?side1 ?side2 (show StrIs _ from ?side3) A11.out).mono ?_
            (case side1 => repeat (first | exact (Kd.R_reads' HO176.out).2.2 | (with_reducible refine Kd.C_alloc ?_ _) | (with_reducible refine Kd.C_drewN ?_ _) | (with_reducible refine Kd.C_drew ?_)))
            (case side2 => exact (Kd.R_reads' HO176.out).2.1)
            (case side3 => exact Stays.below hT_ (by first | (repeat (first | (with_reducible first | exact HB.out | apply below_alloc | apply pw_below_drewN | apply below_drew1 | refine below_set ?_ GE171.out) | exact HB.out)) | (repeat (first | exact Below.refl _ _ | apply below_drew1 | apply pw_below_drewN))))
            rintro e w29 ⟨rfl, hb⟩
            refine ⟨_, rfl, ?_⟩
            have n0_ := Aside0.mk (Kd.R_below (by (with_reducible repeat (first | apply Kd.R_alloc | apply Kd.R_drewN | apply Kd.R_drew)); exact HO176.out) hb)
            have n1_ := Aside0.mk (Kd.R_below (by (with_reducible repeat (first | apply Kd.R_alloc | apply Kd.R_drewN | apply Kd.R_drew)); exact HO178.out) hb)
            have n2_ := Aside0.mk (blk_below (g := gb171) (o := .cells #[.bool a2_0, .bool a2_1, .bool a2_2, .bool a2_3, .bool a2_4, .bool false, .bool a2_6, .int .i64 0] 67 (0, 0)) (by (with_reducible repeat (first | refine blk_drewN ?_ _ | refine blk_drew ?_ | refine blk_alloc ?_ _)); exact BK171.out) hb)
            have n3_ := Aside0.mk (below_step (by repeat (first | (with_reducible first | exact HB.out | apply below_alloc | apply pw_below_drewN | apply below_drew1 | refine below_set ?_ GE171.out) | exact HB.out)) hb)
            clear HO176
            clear HO178
            clear BK171
            clear HB
            have HO176 := n0_
            have HO178 := n1_
            have BK171 := n2_
            have HB := n3_
            clear n0_ n1_ n2_ n3_
            (try clear hb)
            (try clear hb2)
            (try clear hk)
            (try clear hi)
            refine hK.out _ _ ⟨(blk_cell BK171.out 0).trans rfl, (blk_cell BK171.out 1).trans rfl, (blk_cell BK171.out 2).trans rfl, (blk_cell BK171.out 3).trans rfl, (blk_cell BK171.out 4).trans rfl, (blk_cell BK171.out 5).trans rfl, (blk_cell BK171.out 6).trans rfl, (blk_cell BK171.out 7).trans rfl⟩ (fun hHeld => ?_)
            clear hK K
            refine norm_ (a' := ?_) ?_ ?_
            rotate_left
            · show Act.put _ (some 36) _ = _
              simp only [Act.put, List.setIfInBounds_toArray, List.set_cons_zero, List.set_cons_succ, i64_w, i32_w]
              rfl
            refine one_ (i := 4) (N := some 38) #[true, true, true, true, true, false, false, false, false, false] rfl rfl (one_of HT_.out (by kernel_rfl)) (by decide) (fun K hK => ?_)
            refine goes_ Tryd.func37 (by kernel_rfl) rfl #[.string t181, .agg #[.bool a2_0, .bool a2_1, .bool a2_2, .bool a2_3, .bool a2_4, .bool false, .bool a2_6, .int .i64 0]] (by rfl) rfl rfl (by (try simp only [List.map_toArray, List.map_cons, List.map_nil]); first | done | rfl | (simp only [List.length_drop, List.length_take]; rfl)) ?_
            with_reducible refine (impl_Old.calls t181 a2_0 a2_1 a2_2 a2_3 a2_4 false a2_6 0 t182 false _ A12.out).mono ?_
            rintro e w30 ⟨rfl, hb⟩
            refine ⟨_, rfl, ?_⟩
            have n0_ := Aside0.mk (Kd.R_below (by (with_reducible repeat (first | apply Kd.R_alloc | apply Kd.R_drewN | apply Kd.R_drew)); exact HO176.out) hb)
            have n1_ := Aside0.mk (Kd.R_below (by (with_reducible repeat (first | apply Kd.R_alloc | apply Kd.R_drewN | apply Kd.R_drew)); exact HO178.out) hb)
            have n2_ := Aside0.mk (blk_below (g := gb171) (o := .cells #[.bool a2_0, .bool a2_1, .bool a2_2, .bool a2_3, .bool a2_4, .bool false, .bool a2_6, .int .i64 0] 67 (0, 0)) (by (with_reducible repeat (first | refine blk_drewN ?_ _ | refine blk_drew ?_ | refine blk_alloc ?_ _)); exact BK171.out) hb)
            have n3_ := Aside0.mk (below_step (by repeat (first | (with_reducible first | exact HB.out | apply below_alloc | apply pw_below_drewN | apply below_drew1 | refine below_set ?_ GE171.out) | exact HB.out)) hb)
            clear HO176
            clear HO178
            clear BK171
            clear HB
            have HO176 := n0_
            have HO178 := n1_
            have BK171 := n2_
            have HB := n3_
            clear n0_ n1_ n2_ n3_
            (try clear hb)
            (try clear hb2)
            (try clear hk)
            (try clear hi)
            refine hK.out _ _ ⟨(blk_cell BK171.out 0).trans rfl, (blk_cell BK171.out 1).trans rfl, (blk_cell BK171.out 2).trans rfl, (blk_cell BK171.out 3).trans rfl, (blk_cell BK171.out 4).trans rfl, (blk_cell BK171.out 5).trans rfl, (blk_cell BK171.out 6).trans rfl, (blk_cell BK171.out 7).trans rfl⟩ (fun hHeld => ?_)
            clear hK K
            refine norm_ (a' := ?_) ?_ ?_
            rotate_left
            · show Act.put _ (some 38) _ = _
              simp only [Act.put, List.setIfInBounds_toArray, List.set_cons_zero, List.set_cons_succ, i64_w, i32_w]
              rfl
            refine pure_ (i := 5) (N := some 33) (v := ?_) (a' := ?_) #[true, true, true, true, true, true, false, false, false, false] rfl rfl (any_of HT_.out (by kernel_rfl)) (fun _ _ _ h => h) (Or.inl ⟨by rfl, ?_⟩) ?_ ?_
            rotate_left
            · intro w'
              go_simp
              with_reducible rfl
            rotate_left
            · simp only [Act.put, List.setIfInBounds_toArray, List.set_cons_zero, List.set_cons_succ, i64_w, i32_w]
              rfl
            refine pure_ (i := 6) (N := some 39) (v := ?_) (a' := ?_) #[true, true, true, true, true, true, true, false, false, false] rfl rfl (any_of HT_.out (by kernel_rfl)) (fun _ _ _ h => h) (Or.inl ⟨by rfl, ?_⟩) ?_ ?_
            rotate_left
            · intro w'
              go_simp
              with_reducible rfl
            rotate_left
            · simp only [Act.put, List.setIfInBounds_toArray, List.set_cons_zero, List.set_cons_succ, i64_w, i32_w]
              rfl
            refine pure_ (i := 7) (N := some 40) (v := ?_) (a' := ?_) #[true, true, true, true, true, true, true, true, false, false] rfl rfl (any_of HT_.out (by kernel_rfl)) (fun _ _ _ h => h) (Or.inl ⟨by rfl, ?_⟩) ?_ ?_
            rotate_left
            · intro w'
              go_simp
              with_reducible rfl
            rotate_left
            · simp only [Act.put, List.setIfInBounds_toArray, List.set_cons_zero, List.set_cons_succ, i64_w, i32_w]
              rfl
            refine pure_ (i := 8) (N := some 11) (v := ?_) (a' := ?_) #[true, true, true, true, true, true, true, true, true, false] rfl rfl (any_of HT_.out (by kernel_rfl)) (fun _ _ _ h => h) (Or.inl ⟨by rfl, ?_⟩) ?_ ?_
            rotate_left
            · intro w'
              go_simp
              with_reducible rfl
            rotate_left
            · simp only [Act.put, List.setIfInBounds_toArray, List.set_cons_zero, List.set_cons_succ, i64_w, i32_w]
              rfl
            refine pure_ (i := 9) (N := some 12) (v := ?_) (a' := ?_) #[true, true, true, true, true, true, true, true, true, true] rfl rfl (any_of HT_.out (by kernel_rfl)) (fun _ _ _ h => h) (Or.inl ⟨by rfl, ?_⟩) ?_ ?_
            rotate_left
            · intro w'
              go_simp
              with_reducible rfl
            rotate_left
            · simp only [Act.put, List.setIfInBounds_toArray, List.set_cons_zero, List.set_cons_succ, i64_w, i32_w]
              rfl
            refine done_ (done_of HT_.out (by kernel_rfl)) ?_
            try go_wp2
            go_ret
            exact ⟨by first | rfl | (simp [errW_none, errW_some] <;> rfl) | (simp [*, errW_none, errW_some] <;> rfl), by repeat (first | (with_reducible first | exact HB.out | apply below_alloc | apply pw_below_drewN | apply below_drew1 | refine below_set ?_ GE171.out) | exact HB.out)⟩
        · replace c13 := Bool.eq_false_iff.mpr c13
          subst c13
          have H1 : (some true) = some r := by rw [if_neg (show ¬ (false = true) by decide)] at H; exact H
          clear H
          have H := H1
          clear H1
          obtain rfl := Option.some.inj H
          have hcz31_0 : wc.cell? ⟨gb171, 0, none⟩ = some (.bool a2_0) := (blk_cell BK171.out 0).trans rfl
          have hcz31_1 : wc.cell? ⟨gb171, 1, none⟩ = some (.bool a2_1) := (blk_cell BK171.out 1).trans rfl
          have hcz31_2 : wc.cell? ⟨gb171, 2, none⟩ = some (.bool a2_2) := (blk_cell BK171.out 2).trans rfl
          have hcz31_3 : wc.cell? ⟨gb171, 3, none⟩ = some (.bool a2_3) := (blk_cell BK171.out 3).trans rfl
          have hcz31_4 : wc.cell? ⟨gb171, 4, none⟩ = some (.bool a2_4) := (blk_cell BK171.out 4).trans rfl
          have hcz31_5 : wc.cell? ⟨gb171, 5, none⟩ = some (.bool a2_5) := (blk_cell BK171.out 5).trans rfl
          have hcz31_6 : wc.cell? ⟨gb171, 6, none⟩ = some (.bool a2_6) := (blk_cell BK171.out 6).trans rfl
          have hcz31_7 : wc.cell? ⟨gb171, 7, none⟩ = some (.int .i64 a2_7) := (blk_cell BK171.out 7).trans rfl
          have hfz31_0 := blk_frozen BK171.out 0
          have hfz31_1 := blk_frozen BK171.out 1
          have hfz31_2 := blk_frozen BK171.out 2
          have hfz31_3 := blk_frozen BK171.out 3
          have hfz31_4 := blk_frozen BK171.out 4
          have hfz31_5 := blk_frozen BK171.out 5
          have hfz31_6 := blk_frozen BK171.out 6
          have hfz31_7 := blk_frozen BK171.out 7
          try go_wp2_with (first | (go_at_call 32; refine (idCut_at _ _ _ _ _ _ (by assumption) (by assumption)).mono ?_; rintro e w_ ⟨rfl, rfl⟩) | ((with_reducible refine gate_callee (f := 27) rfl ?_); refine goesL_ (some 25) rfl rfl Tryd.func27 (by kernel_rfl) rfl #[.slice A0 l0.length c0] rfl (by (try simp only [List.map_toArray, List.map_cons, List.map_nil]); first | done | rfl | (simp only [List.length_drop, List.length_take]; rfl)) ?_; (with_reducible refine (laws_lgEscaped.calls kj3 _ _ l0 t173 t174 _ ?side1 ?side2 A9.out).mono ?_); (case side1 => exact Kd.C_below HR0.out (by repeat (first | (with_reducible first | exact HB.out | apply below_alloc | apply pw_below_drewN | apply below_drew1 | refine below_set ?_ GE171.out) | exact HB.out))); (case side2 => exact HC0.out); rintro e w32 ⟨v175, v177, rfl, ho0, ho1, hb⟩; refine ⟨_, rfl, ?_⟩; have n0_ := Aside0.mk (Kd.R_lower ho0 (below_size (by repeat (first | (with_reducible first | exact HB.out | apply below_alloc | apply pw_below_drewN | apply below_drew1 | refine below_set ?_ GE171.out) | exact HB.out)))); have n1_ := Aside0.mk (Kd.R_lower ho1 (below_size (by repeat (first | (with_reducible first | exact HB.out | apply below_alloc | apply pw_below_drewN | apply below_drew1 | refine below_set ?_ GE171.out) | exact HB.out)))); have n2_ := Aside0.mk (blk_below (g := gb171) (o := .cells #[.bool a2_0, .bool a2_1, .bool a2_2, .bool a2_3, .bool a2_4, .bool false, .bool a2_6, .int .i64 0] 67 (0, 0)) (by (with_reducible repeat (first | refine blk_drewN ?_ _ | refine blk_drew ?_ | refine blk_alloc ?_ _)); refine blk_put (cs := #[.bool a2_0, .bool a2_1, .bool a2_2, .bool a2_3, .bool a2_4, .bool a2_5, .bool a2_6, .int .i64 0]) ?_ 5 _ rfl; (with_reducible repeat (first | refine blk_drewN ?_ _ | refine blk_drew ?_ | refine blk_alloc ?_ _)); refine blk_put (cs := #[.bool a2_0, .bool a2_1, .bool a2_2, .bool a2_3, .bool a2_4, .bool a2_5, .bool a2_6, .int .i64 a2_7]) ?_ 7 _ rfl; (with_reducible repeat (first | refine blk_drewN ?_ _ | refine blk_drew ?_ | refine blk_alloc ?_ _)); exact BK171.out) hb); have n3_ := Aside0.mk (below_step (by repeat (first | (with_reducible first | exact HB.out | apply below_alloc | apply pw_below_drewN | apply below_drew1 | refine below_set ?_ GE171.out) | exact HB.out)) hb); clear BK171; clear HB; have HO176 := n0_; have HO178 := n1_; have BK171 := n2_; have HB := n3_; clear n0_ n1_ n2_ n3_; (try clear hb); (try clear hb2); (try clear hk); (try clear hi); (try clear ho0); (try clear ho1)) | ((with_reducible refine gate_callee (f := 28) rfl ?_); refine goesL_ (some 30) rfl rfl Tryd.func28 (by kernel_rfl) rfl #[.slice A1 l1.length c1] rfl (by (try simp only [List.map_toArray, List.map_cons, List.map_nil]); first | done | rfl | (simp only [List.length_drop, List.length_take]; rfl)) ?_; (with_reducible refine (laws_lgHash.calls _ _ l1 t179 false _ ?side1 ?side2 A10.out).mono ?_); (case side1 => repeat (first | exact (Kd.C_below HR1.out HB.out) | (with_reducible refine Kd.C_alloc ?_ _) | (with_reducible refine Kd.C_drewN ?_ _) | (with_reducible refine Kd.C_drew ?_))); (case side2 => exact HC1.out); rintro e w33 ⟨rfl, hb⟩; refine ⟨_, rfl, ?_⟩; have n0_ := Aside0.mk (Kd.R_below (by (with_reducible repeat (first | apply Kd.R_alloc | apply Kd.R_drewN | apply Kd.R_drew)); exact HO176.out) hb); have n1_ := Aside0.mk (Kd.R_below (by (with_reducible repeat (first | apply Kd.R_alloc | apply Kd.R_drewN | apply Kd.R_drew)); exact HO178.out) hb); have n2_ := Aside0.mk (blk_below (g := gb171) (o := .cells #[.bool a2_0, .bool a2_1, .bool a2_2, .bool a2_3, .bool a2_4, .bool false, .bool a2_6, .int .i64 0] 67 (0, 0)) (by (with_reducible repeat (first | refine blk_drewN ?_ _ | refine blk_drew ?_ | refine blk_alloc ?_ _)); exact BK171.out) hb); have n3_ := Aside0.mk (below_step (by repeat (first | (with_reducible first | exact HB.out | apply below_alloc | apply pw_below_drewN | apply below_drew1 | refine below_set ?_ GE171.out) | exact HB.out)) hb); clear HO176; clear HO178; clear BK171; clear HB; have HO176 := n0_; have HO178 := n1_; have BK171 := n2_; have HB := n3_; clear n0_ n1_ n2_ n3_; (try clear hb); (try clear hb2); (try clear hk); (try clear hi)))
          have n0_ := Aside0.mk (Kd.R_drew HO176.out)
          have n1_ := Aside0.mk (Kd.R_drew HO178.out)
          have n2_ := Aside0.mk (blk_drew BK171.out)
          have n3_ := Aside0.mk (below_drew1 HB.out)
          clear HO176
          clear HO178
          clear BK171
          clear HB
          have HO176 := n0_
          have HO178 := n1_
          have BK171 := n2_
          have HB := n3_
          clear n0_ n1_ n2_ n3_
          obtain ⟨Ao35, co35, eo35⟩ := Kd.R_slice HO176.out
          (first | subst eo35 | (injection eo35 with f1_ f2_ f3_; have f4_ := f1_.symm; have f5_ := f3_.symm; clear f1_ f2_ f3_; subst f4_; subst f5_))
          refine start_ (n := 10) (S := fun w' => w'.cell? ⟨gb171, 0, none⟩ = some (.bool a2_0) ∧ w'.cell? ⟨gb171, 1, none⟩ = some (.bool a2_1) ∧ w'.cell? ⟨gb171, 2, none⟩ = some (.bool a2_2) ∧ w'.cell? ⟨gb171, 3, none⟩ = some (.bool a2_3) ∧ w'.cell? ⟨gb171, 4, none⟩ = some (.bool a2_4) ∧ w'.cell? ⟨gb171, 5, none⟩ = some (.bool false) ∧ w'.cell? ⟨gb171, 6, none⟩ = some (.bool a2_6) ∧ w'.cell? ⟨gb171, 7, none⟩ = some (.int .i64 0)) (ds := []) #[false, false, false, false, false, false, false, false, false, false] (by kernel_rfl) rfl rfl ⟨(blk_cell BK171.out 0).trans rfl, (blk_cell BK171.out 1).trans rfl, (blk_cell BK171.out 2).trans rfl, (blk_cell BK171.out 3).trans rfl, (blk_cell BK171.out 4).trans rfl, (blk_cell BK171.out 5).trans rfl, (blk_cell BK171.out 6).trans rfl, (blk_cell BK171.out 7).trans rfl⟩ (fun hHeld => ?_); refine with_tabW laws_FnLegacyOptions.tab7 laws_FnLegacyOptions.bits7 (fun HT_ HW_ => ?_)
          generalize w33.drew = w34 at HO176 HO178 BK171 HB hHeld ⊢
          refine pure_ (i := 0) (N := some 34) (v := ?_) (a' := ?_) #[true, false, false, false, false, false, false, false, false, false] rfl rfl (any_of HT_.out (by kernel_rfl)) (fun _ _ _ h => h) (Or.inl ⟨by rfl, ?_⟩) ?_ ?_
          rotate_left
          · intro w'
            go_simp
            with_reducible rfl
          rotate_left
          · simp only [Act.put, List.setIfInBounds_toArray, List.set_cons_zero, List.set_cons_succ, i64_w, i32_w]
            rfl
          refine pure_ (i := 1) (N := some 35) (v := ?_) (a' := ?_) #[true, true, false, false, false, false, false, false, false, false] rfl rfl (any_of HT_.out (by kernel_rfl)) (fun _ _ _ h => h) (Or.inl ⟨by rfl, ?_⟩) ?_ ?_
          rotate_left
          · intro w'
            go_simp
            with_reducible rfl
          rotate_left
          · simp only [Act.put, List.setIfInBounds_toArray, List.set_cons_zero, List.set_cons_succ, i64_w, i32_w]
            rfl
          refine take_ (i := 3) (N := some 37) (v := ?_) (a' := ?_) #[true, true, false, true, false, false, false, false, false, false] rfl rfl (take_ofW HT_.out HW_.out (by kernel_rfl)) (fun _ _ _ h => h) (Or.inl ⟨by rfl, ?_⟩) hHeld ?_ ?_
          rotate_left
          · rintro w' ⟨s0, s1, s2, s3, s4, s5, s6, s7⟩
            go_simp
            with_reducible rfl
          rotate_left
          · simp only [Act.put, List.setIfInBounds_toArray, List.set_cons_zero, List.set_cons_succ, i64_w, i32_w]
            rfl
          refine one_ (i := 2) (N := some 36) #[true, true, true, true, false, false, false, false, false, false] rfl rfl (one_of HT_.out (by kernel_rfl)) (by decide) (fun K hK => ?_)
          refine goes_ Tryd.func38 (by kernel_rfl) rfl #[.slice Ao35 t173.length co35, .string t179] (by rfl) rfl rfl (by (try simp only [List.map_toArray, List.map_cons, List.map_nil]); first | done | rfl | (simp only [List.length_drop, List.length_take]; rfl)) ?_
          with_reducible refine (spec_LgSymbol.calls kj3 _ _ t173 t179 t181 _ ?side1 ?side2 (show StrIs _ from ?side3) A11.out).mono ?_
          (case side1 => repeat (first | exact (Kd.R_reads' HO176.out).2.2 | (with_reducible refine Kd.C_alloc ?_ _) | (with_reducible refine Kd.C_drewN ?_ _) | (with_reducible refine Kd.C_drew ?_)))
          (case side2 => exact (Kd.R_reads' HO176.out).2.1)
          (case side3 => exact Stays.below hT_ (by first | (repeat (first | (with_reducible first | exact HB.out | apply below_alloc | apply pw_below_drewN | apply below_drew1 | refine below_set ?_ GE171.out) | exact HB.out)) | (repeat (first | exact Below.refl _ _ | apply below_drew1 | apply pw_below_drewN))))
          rintro e w36 ⟨rfl, hb⟩
          refine ⟨_, rfl, ?_⟩
          have n0_ := Aside0.mk (Kd.R_below (by (with_reducible repeat (first | apply Kd.R_alloc | apply Kd.R_drewN | apply Kd.R_drew)); exact HO176.out) hb)
          have n1_ := Aside0.mk (Kd.R_below (by (with_reducible repeat (first | apply Kd.R_alloc | apply Kd.R_drewN | apply Kd.R_drew)); exact HO178.out) hb)
          have n2_ := Aside0.mk (blk_below (g := gb171) (o := .cells #[.bool a2_0, .bool a2_1, .bool a2_2, .bool a2_3, .bool a2_4, .bool false, .bool a2_6, .int .i64 0] 67 (0, 0)) (by (with_reducible repeat (first | refine blk_drewN ?_ _ | refine blk_drew ?_ | refine blk_alloc ?_ _)); exact BK171.out) hb)
          have n3_ := Aside0.mk (below_step (by repeat (first | (with_reducible first | exact HB.out | apply below_alloc | apply pw_below_drewN | apply below_drew1 | refine below_set ?_ GE171.out) | exact HB.out)) hb)
          clear HO176
          clear HO178
          clear BK171
          clear HB
          have HO176 := n0_
          have HO178 := n1_
          have BK171 := n2_
          have HB := n3_
          clear n0_ n1_ n2_ n3_
          (try clear hb)
          (try clear hb2)
          (try clear hk)
          (try clear hi)
          refine hK.out _ _ ⟨(blk_cell BK171.out 0).trans rfl, (blk_cell BK171.out 1).trans rfl, (blk_cell BK171.out 2).trans rfl, (blk_cell BK171.out 3).trans rfl, (blk_cell BK171.out 4).trans rfl, (blk_cell BK171.out 5).trans rfl, (blk_cell BK171.out 6).trans rfl, (blk_cell BK171.out 7).trans rfl⟩ (fun hHeld => ?_)
          clear hK K
          refine norm_ (a' := ?_) ?_ ?_
          rotate_left
          · show Act.put _ (some 36) _ = _
            simp only [Act.put, List.setIfInBounds_toArray, List.set_cons_zero, List.set_cons_succ, i64_w, i32_w]
            rfl
          refine one_ (i := 4) (N := some 38) #[true, true, true, true, true, false, false, false, false, false] rfl rfl (one_of HT_.out (by kernel_rfl)) (by decide) (fun K hK => ?_)
          refine goes_ Tryd.func37 (by kernel_rfl) rfl #[.string t181, .agg #[.bool a2_0, .bool a2_1, .bool a2_2, .bool a2_3, .bool a2_4, .bool false, .bool a2_6, .int .i64 0]] (by rfl) rfl rfl (by (try simp only [List.map_toArray, List.map_cons, List.map_nil]); first | done | rfl | (simp only [List.length_drop, List.length_take]; rfl)) ?_
          with_reducible refine (impl_Old.calls t181 a2_0 a2_1 a2_2 a2_3 a2_4 false a2_6 0 t182 t183 _ A12.out).mono ?_
          rintro e w37 ⟨rfl, hb⟩
          refine ⟨_, rfl, ?_⟩
          have n0_ := Aside0.mk (Kd.R_below (by (with_reducible repeat (first | apply Kd.R_alloc | apply Kd.R_drewN | apply Kd.R_drew)); exact HO176.out) hb)
          have n1_ := Aside0.mk (Kd.R_below (by (with_reducible repeat (first | apply Kd.R_alloc | apply Kd.R_drewN | apply Kd.R_drew)); exact HO178.out) hb)
          have n2_ := Aside0.mk (blk_below (g := gb171) (o := .cells #[.bool a2_0, .bool a2_1, .bool a2_2, .bool a2_3, .bool a2_4, .bool false, .bool a2_6, .int .i64 0] 67 (0, 0)) (by (with_reducible repeat (first | refine blk_drewN ?_ _ | refine blk_drew ?_ | refine blk_alloc ?_ _)); exact BK171.out) hb)
          have n3_ := Aside0.mk (below_step (by repeat (first | (with_reducible first | exact HB.out | apply below_alloc | apply pw_below_drewN | apply below_drew1 | refine below_set ?_ GE171.out) | exact HB.out)) hb)
          clear HO176
          clear HO178
          clear BK171
          clear HB
          have HO176 := n0_
          have HO178 := n1_
          have BK171 := n2_
          have HB := n3_
          clear n0_ n1_ n2_ n3_
          (try clear hb)
          (try clear hb2)
          (try clear hk)
          (try clear hi)
          refine hK.out _ _ ⟨(blk_cell BK171.out 0).trans rfl, (blk_cell BK171.out 1).trans rfl, (blk_cell BK171.out 2).trans rfl, (blk_cell BK171.out 3).trans rfl, (blk_cell BK171.out 4).trans rfl, (blk_cell BK171.out 5).trans rfl, (blk_cell BK171.out 6).trans rfl, (blk_cell BK171.out 7).trans rfl⟩ (fun hHeld => ?_)
          clear hK K
          refine norm_ (a' := ?_) ?_ ?_
          rotate_left
          · show Act.put _ (some 38) _ = _
            simp only [Act.put, List.setIfInBounds_toArray, List.set_cons_zero, List.set_cons_succ, i64_w, i32_w]
            rfl
          refine pure_ (i := 5) (N := some 33) (v := ?_) (a' := ?_) #[true, true, true, true, true, true, false, false, false, false] rfl rfl (any_of HT_.out (by kernel_rfl)) (fun _ _ _ h => h) (Or.inl ⟨by rfl, ?_⟩) ?_ ?_
          rotate_left
          · intro w'
            go_simp
            with_reducible rfl
          rotate_left
          · simp only [Act.put, List.setIfInBounds_toArray, List.set_cons_zero, List.set_cons_succ, i64_w, i32_w]
            rfl
          refine pure_ (i := 6) (N := some 39) (v := ?_) (a' := ?_) #[true, true, true, true, true, true, true, false, false, false] rfl rfl (any_of HT_.out (by kernel_rfl)) (fun _ _ _ h => h) (Or.inl ⟨by rfl, ?_⟩) ?_ ?_
          rotate_left
          · intro w'
            go_simp
            with_reducible rfl
          rotate_left
          · simp only [Act.put, List.setIfInBounds_toArray, List.set_cons_zero, List.set_cons_succ, i64_w, i32_w]
            rfl
          refine pure_ (i := 7) (N := some 40) (v := ?_) (a' := ?_) #[true, true, true, true, true, true, true, true, false, false] rfl rfl (any_of HT_.out (by kernel_rfl)) (fun _ _ _ h => h) (Or.inl ⟨by rfl, ?_⟩) ?_ ?_
          rotate_left
          · intro w'
            go_simp
            with_reducible rfl
          rotate_left
          · simp only [Act.put, List.setIfInBounds_toArray, List.set_cons_zero, List.set_cons_succ, i64_w, i32_w]
            rfl
          refine pure_ (i := 8) (N := some 11) (v := ?_) (a' := ?_) #[true, true, true, true, true, true, true, true, true, false] rfl rfl (any_of HT_.out (by kernel_rfl)) (fun _ _ _ h => h) (Or.inl ⟨by rfl, ?_⟩) ?_ ?_
          rotate_left
          · intro w'
            go_simp
            with_reducible rfl
          rotate_left
          · simp only [Act.put, List.setIfInBounds_toArray, List.set_cons_zero, List.set_cons_succ, i64_w, i32_w]
            rfl
          refine pure_ (i := 9) (N := some 12) (v := ?_) (a' := ?_) #[true, true, true, true, true, true, true, true, true, true] rfl rfl (any_of HT_.out (by kernel_rfl)) (fun _ _ _ h => h) (Or.inl ⟨by rfl, ?_⟩) ?_ ?_
          rotate_left
          · intro w'
            go_simp
            with_reducible rfl
          rotate_left
          · simp only [Act.put, List.setIfInBounds_toArray, List.set_cons_zero, List.set_cons_succ, i64_w, i32_w]
            rfl
          refine done_ (done_of HT_.out (by kernel_rfl)) ?_
          try go_wp2
          go_ret
          exact ⟨by first | rfl | (simp [errW_none, errW_some] <;> rfl) | (simp [*, errW_none, errW_some] <;> rfl), by repeat (first | (with_reducible first | exact HB.out | apply below_alloc | apply pw_below_drewN | apply below_drew1 | refine below_set ?_ GE171.out) | exact HB.out)⟩

/-- THE ONE PURE STATEMENT of laws_FnLegacyOptions: yours. -/
def laws_FnLegacyOptions.Pure : Prop := ∀ (l0 : List (List Int)) (l1 : List Int) (a2_0 : Bool) (a2_1 : Bool) (a2_2 : Bool) (a2_3 : Bool) (a2_4 : Bool) (a2_5 : Bool) (a2_6 : Bool) (a2_7 : Int), l0.length ≤ maxLen → (∀ r ∈ l0, r.length ≤ maxLen ∧ ∀ x ∈ r, (Lit.int .i64 x).wf = true) → l1.length ≤ maxLen → l1.length * 1 ≤ 140737488351232 → (∀ x ∈ l1, (Lit.int .u8 x).wf = true) → ∃ k, laws_FnLegacyOptions.f k l0 l1 a2_0 a2_1 a2_2 a2_3 a2_4 a2_5 a2_6 a2_7 = some true
theorem laws_FnLegacyOptions.walk (P : laws_FnLegacyOptions.Pure) (a0 : Option Addr) (cap0 : Nat) (l0 : List (List Int)) (a1 : Option Addr) (len1 cap1 : Nat) (z1 : List Int) (a2_0 : Bool) (a2_1 : Bool) (a2_2 : Bool) (a2_3 : Bool) (a2_4 : Bool) (a2_5 : Bool) (a2_6 : Bool) (a2_7 : Int) (w : World) (hT_ : StrIs w) (w0 : (Kd.slice 3 (Kd.int .i64)).C w a0 l0.length l0) (x0 : l0.length ≤ maxLen) (y0 : ∀ r ∈ l0, r.length ≤ maxLen ∧ ∀ x ∈ r, (Lit.int .i64 x).wf = true) (c0 : l0.length ≤ cap0) (w1 : (a1 = none ∧ len1 = 0 ∧ cap1 = 0 ∧ z1 = []) ∨ ∃ x, a1 = some x ∧ len1 ≤ cap1 ∧ cap1 ≤ maxLen ∧ z1.length = cap1 ∧ (∀ i, i < z1.length → w.cell? (x.add i) = some (.int .u8 (z1.getD i 0))) ∧ ∀ n ∈ z1, (Lit.int .u8 n).wf = true) (y1 : len1 * 1 ≤ 140737488351232) :
    Calls Tryd.prog 13 #[.slice a0 l0.length cap0, .slice a1 len1 cap1, .agg #[.bool a2_0, .bool a2_1, .bool a2_2, .bool a2_3, .bool a2_4, .bool a2_5, .bool a2_6, .int .i64 a2_7]] w fun e w' => e = .returned (.bool true) ∧ Below w.heap.size w w' := by
  obtain ⟨l1, rfl, hr1, hm1, hw1, hc1⟩ := ReadsInt.ofRowC w1
  obtain ⟨k, h⟩ := P l0 l1 a2_0 a2_1 a2_2 a2_3 a2_4 a2_5 a2_6 a2_7 x0 y0 hm1 y1 hw1
  refine (laws_FnLegacyOptions.calls k _ _ l0 _ _ l1 a2_0 a2_1 a2_2 a2_3 a2_4 a2_5 a2_6 a2_7 true w w0 c0 (Kd.C_of_reads (d := (0 : Int)) (h1 := fun _ => rfl) hr1) hc1 hT_ h).mono ?_
  rintro e w' ⟨rfl, hd⟩
  exact ⟨rfl, hd⟩

end Go.Proofs.YtpmlnhddkbgefaaDoor.PFnLegacyOptions
