/- Written by a program of this session (wip/tools/myprint.py) with the kit's print: contracts of the functions that one statement reaches; functions that are proved by hand are taken as printed. Conditions: none. -/
import Derived.Test.YtpmlnhddkbgefaaDoorPFnLegacyNoNumberx0
import Derived.Test.YtpmlnhddkbgefaaDoorPFnLegacyNoNumberx1
namespace Go.Proofs.YtpmlnhddkbgefaaDoor.PFnLegacyNoNumber
open Go.RowKit Go.Proofs.YtpmlnhddkbgefaaDoorW.PrintWords Go.Proofs.YtpmlnhddkbgefaaDoorW.PrintLast Go.Proofs.YtpmlnhddkbgefaaDoorW.PrintMore
attribute [local go_sem] max2_int min2_int max_two min_two max_three min_three max_four min_four   -- for this text's walks alone
set_option linter.unusedVariables false
set_option linter.unusedSimpArgs false

/-! ### laws_lgWords: function 36 -/
def laws_lgWords.l0 : Nat → List ByteArray → List (List Int) → Int → Int → Option (List ByteArray)
  | 0, _, _, _, _ => none
  | k + 1, x3, x7, x8, x9 => if x9 < x8 then (if 0 ≤ x9 then (if x9 < (x7.length : Int) then (if x9 < 100 then (if 0 ≤ (mn ((rd_L2 x7 x9).length : Int) 1000) then (if (mn ((rd_L2 x7 x9).length : Int) 1000) ≤ ((rd_L2 x7 x9).length : Int) then ((spec_AnWord.f k ((rd_L2 x7 x9).take ((mn ((rd_L2 x7 x9).length : Int) 1000) : Int).toNat)).bind fun t125 => (if x3.length < 8796093022208 then (laws_lgWords.l0 k (x3 ++ [t125]) x7 x8 (wrap64 (x9 + 1))) else (none))) else (none)) else (none)) else (laws_lgWords.l0 k x3 x7 x8 (wrap64 (x9 + 1)))) else (none)) else (none)) else (if (x3.length : Int) = 0 then (if x3.length < 8796093022208 then (some (x3 ++ [(⟨#[102]⟩ : ByteArray)])) else (none)) else (some x3))
def laws_lgWords.f (k : Nat) (l0 : List (List Int)) : Option (List ByteArray) := laws_lgWords.l0 k (([] : List ByteArray)) l0 (l0.length : Int) 0
theorem laws_lgWords.mono_l : ∀ k, (∀ y0 y1 y2 y3, LeO (laws_lgWords.l0 k y0 y1 y2 y3) (laws_lgWords.l0 (k + 1) y0 y1 y2 y3))
  | 0 => fun _ _ _ _ r h => by simp [laws_lgWords.l0] at h
  | k + 1 => by
    have ih0 := laws_lgWords.mono_l k
    · intro y0 y1 y2 y3
      unfold laws_lgWords.l0
      repeat' first
      | (with_reducible exact ih0 _ _ _ _)
      | (with_reducible exact spec_AnWord.mono _ _)
      | (with_reducible exact LeO.refl _)
      | (with_reducible exact LeO.none _)
      | (with_reducible refine LeO.ite ?_ ?_)
      | (with_reducible refine LeO.bind ?_ (fun _ => ?_))
      | exact ih0 _ _ _ _
      | exact spec_AnWord.mono _ _
      | exact LeO.none _
      | refine LeO.ite ?_ ?_
      | refine LeO.bind ?_ (fun _ => ?_)
theorem laws_lgWords.mono : ∀ a0 k, LeO (laws_lgWords.f k a0) (laws_lgWords.f (k + 1) a0) := by
  intro a0 k
  have ih0 := laws_lgWords.mono_l k
  unfold laws_lgWords.f
  repeat' first
      | (with_reducible exact ih0 _ _ _ _)
      | (with_reducible exact spec_AnWord.mono _ _)
      | (with_reducible exact LeO.refl _)
      | (with_reducible exact LeO.none _)
      | (with_reducible refine LeO.ite ?_ ?_)
      | (with_reducible refine LeO.bind ?_ (fun _ => ?_))
      | exact ih0 _ _ _ _
      | exact spec_AnWord.mono _ _
      | exact LeO.none _
      | refine LeO.ite ?_ ?_
      | refine LeO.bind ?_ (fun _ => ?_)
set_option maxHeartbeats 8000000 in
set_option maxRecDepth 100000 in
theorem laws_lgWords.calls (k : Nat) (A0 : Option Addr) (c0 : Nat) (l0 : List (List Int)) (r : List ByteArray) (w : World) (hr0 : Kd.C (Kd.slice 5 (Kd.int .u8)) w A0 l0.length l0) (hc0 : l0.length ≤ c0) (h : laws_lgWords.f k l0 = some r) :
    Calls Tryd.prog 36 #[.slice A0 l0.length c0] w fun e w' => ∃ v0_ : Value, e = .returned (v0_) ∧ Kd.R Kd.string 9 w' w.heap.size (fun _ => True) v0_ r ∧ Below w.heap.size w w' := by
  have HR0 := Aside0.mk hr0
  have HC0 := Aside0.mk hc0
  clear hr0 hc0
  have HB := Aside0.mk (Below.refl w.heap.size w)
  have H : (laws_lgWords.l0 k (([] : List ByteArray)) l0 (l0.length : Int) 0) = some r := h
  clear h
  obtain ⟨y120, hy120⟩ : ∃ y_ : List ByteArray, y_ = (([] : List ByteArray)) := ⟨_, rfl⟩
  replace H : (laws_lgWords.l0 k y120 l0 (l0.length : Int) 0) = some r := by first | (rw [hy120]; with_reducible exact H) | (have H2_ := (Option.bind_some _ _).symm.trans H; rw [hy120]; with_reducible exact H2_) | (have H2_ := (Option.bind_some _ _).symm.trans H; with_reducible exact H2_) | with_reducible exact H | (rw [hy120]; exact H) | exact H
  have Ny120 := Aside0.mk hy120
  clear hy120
  have H' := Aside0.mk H
  clear H
  go_enter Tryd.func36, Tryd.ntmps36
  go_wp2_with (first | (go_at_call 32; refine (idCut_at _ _ _ _ _ _ (by assumption) (by assumption)).mono ?_; rintro e w_ ⟨rfl, rfl⟩) | ((with_reducible refine gate_dst (N := 6) rfl ?_); refine Kd.R_lit Kd.string _ 9 ?hg (N := 6) ?hd (xs := ([] : List ByteArray)) (inner := []) (ok := fun _ => True) (okp := fun _ => True) ?hr ?hp (fun _ hk => hk) trivial (Below.refl _ _) (Nat.le_refl _) (by simp) ?_; (case hd => rfl); (case hg => rfl); (case hr => first | (go_simp; done) | (go_simp; rfl)); (case hp => exact (Reps.none _ _)); intro v121 w2 ho3 hb hg_ hnew_; clear hg_ hnew_; (first | rw [← Ny120.out] at ho3 | (simp only [Int.reduceToNat] at ho3; rw [← Ny120.out] at ho3)); have n0_ := Aside0.mk (Kd.R_lower ho3 (below_size (by repeat (first | (with_reducible first | exact HB.out | apply below_alloc | apply pw_below_drewN | apply below_drew1) | exact HB.out)))); have n1_ := Aside0.mk (below_step (by repeat (first | (with_reducible first | exact HB.out | apply below_alloc | apply pw_below_drewN | apply below_drew1) | exact HB.out)) hb); clear HB; have HO122 := n0_; have HB := n1_; clear n0_ n1_; clear hb ho3))
  go_loopg [3, 9] k (fun kq v3 v9 w' => ∃ (x3_1 : List ByteArray) (x9_1 : Int), v9 = .int .i64 x9_1 ∧ Aside0 (laws_lgWords.l0 kq x3_1 l0 (l0.length : Int) x9_1 = some r) ∧ Aside0 (kq ≤ k) ∧ Aside0 (Kd.R Kd.string 9 w' w.heap.size (fun _ => True) v3 x3_1) ∧ Aside0 (Below w.heap.size w w'))
  case atStart => exact ⟨(y120), (0), (by first | rfl | (simp; done) | (simp [*]; done)), H', ⟨Nat.le_refl _⟩, ⟨by (with_reducible repeat (first | apply Kd.R_alloc | apply Kd.R_drewN | apply Kd.R_drew)); exact HO122.out⟩, ⟨by repeat (first | (with_reducible first | exact HB.out | apply below_alloc | apply pw_below_drewN | apply below_drew1) | exact HB.out)⟩⟩
  case round =>
    clear H'
    try clear p2
    try clear c3
    obtain ⟨x3_1, x9_1, rfl, HA, HK1, HO_3, HB⟩ := hrel
    cases gk with
    | zero => exact absurd HA.out (by simp [laws_lgWords.l0])
    | succ k1 =>
      have H := HA.out
      clear HA
      simp only [laws_lgWords.l0] at H
      by_cases c4 : x9_1 < (l0.length : Int)
      · rw [if_pos c4] at H
        have c4b0 : decide (x9_1 < (l0.length : Int)) = true := decide_eq_true c4
        clear c4
        by_cases c5 : 0 ≤ x9_1
        · rw [if_pos c5] at H
          have c5b0 : decide (0 ≤ x9_1) = true := decide_eq_true c5
          clear c5
          by_cases c6 : x9_1 < (l0.length : Int)
          · rw [if_pos c6] at H
            have c6b0 : decide (x9_1 < (l0.length : Int)) = true := decide_eq_true c6
            clear c6
            by_cases c7 : x9_1 < 100
            · rw [if_pos c7] at H
              have c7b0 : decide (x9_1 < 100) = true := decide_eq_true c7
              clear c7
              obtain ⟨ji8, hji8⟩ : ∃ j_ : Int, (mn ((rd_L2 l0 x9_1).length : Int) 1000) = j_ := ⟨_, rfl⟩
              replace H : (if 0 ≤ (ji8) then (if (ji8) ≤ ((rd_L2 l0 x9_1).length : Int) then ((spec_AnWord.f k1 ((rd_L2 l0 x9_1).take ((ji8) : Int).toNat)).bind fun t125 => (if x3_1.length < 8796093022208 then (laws_lgWords.l0 k1 (x3_1 ++ [t125]) l0 (l0.length : Int) (wrap64 (x9_1 + 1))) else (none))) else (none)) else (none)) = some r := by first | (rw [hji8] at H; exact H) | (simp only [hji8] at H ⊢; exact H)
              have hji8_ : (if 1000 < ((rd_L2 l0 x9_1).length : Int) then 1000 else ((rd_L2 l0 x9_1).length : Int)) = ji8 := hji8
              by_cases c9 : 0 ≤ (ji8)
              · rw [if_pos c9] at H
                have c9b0 := eq_true c9
                have c9b1 : decide (0 ≤ (ji8)) = true := decide_eq_true c9
                clear c9
                by_cases c10 : (ji8) ≤ ((rd_L2 l0 x9_1).length : Int)
                · rw [if_pos c10] at H
                  have c10b0 := eq_true c10
                  have c10b1 : decide ((ji8) ≤ ((rd_L2 l0 x9_1).length : Int)) = true := decide_eq_true c10
                  clear c10
                  replace H := Option.bind_eq_some_iff.mp H
                  obtain ⟨t125, A110, H⟩ := H
                  replace H : (if x3_1.length < 8796093022208 then (laws_lgWords.l0 k1 (x3_1 ++ [t125]) l0 (l0.length : Int) (wrap64 (x9_1 + 1))) else (none)) = some r := H
                  have A11 := Aside0.mk A110
                  clear A110
                  by_cases c12 : x3_1.length < 8796093022208
                  · rw [if_pos c12] at H
                    have LMc12 := Aside0.mk c12
                    clear c12
                    obtain ⟨y126, hy126⟩ : ∃ y_ : List ByteArray, y_ = (x3_1 ++ [t125]) := ⟨_, rfl⟩
                    replace H : (laws_lgWords.l0 k1 y126 l0 (l0.length : Int) (wrap64 (x9_1 + 1))) = some r := by first | (rw [hy126]; with_reducible exact H) | (have H2_ := (Option.bind_some _ _).symm.trans H; rw [hy126]; with_reducible exact H2_) | (have H2_ := (Option.bind_some _ _).symm.trans H; with_reducible exact H2_) | with_reducible exact H | (rw [hy126]; exact H) | exact H
                    have Ny126 := Aside0.mk hy126
                    clear hy126
                    have H' := Aside0.mk H
                    clear H
                    have p123 : 0 ≤ (x9_1 : Int) := of_decide_eq_true (by first | (with_reducible assumption) | assumption)
                    have q123 : x9_1 < (l0.length : Int) := of_decide_eq_true (by first | (with_reducible assumption) | assumption)
                    obtain ⟨ad123, A123_0, c123_0, e123, hx123_0, hl123_0, hi123_0⟩ := at_L2 HR0.out x9_1 p123 q123
                    cases e123
                    replace hx123_0 := (HB.out.cell (World.block_lt_of_cell? w _ hx123_0)).trans hx123_0
                    have HR123_0 := Aside0.mk hi123_0
                    have HC123_0 := Aside0.mk hl123_0
                    clear hi123_0 hl123_0
                    replace p123 := eq_true p123
                    replace q123 := eq_true q123
                    obtain ⟨i013, hi013, _, hsz13, _⟩ := info_parts info5
                    obtain ⟨hcut13, hA13, hC13⟩ := print_take_of (P := Tryd.prog) (Value.int .u8) 0 27 5 .i64 Tryd.underlying27 hi013 hsz13 A123_0 c123_0 (rd_L2 l0 x9_1) (ji8) (of_decide_eq_true (by first | (with_reducible assumption) | assumption)) (of_decide_eq_true (by first | (with_reducible assumption) | assumption)) HC123_0.out
                    have HR124 := Aside0.mk (Kd.C_of_reads (h1 := fun _ => rfl) (hA13 _ (Kd.reads_of_C HR123_0.out)))
                    have HC124 := Aside0.mk hC13
                    clear hA13 hC13 hi013 hsz13
                    go_wp2_with (first | (go_at_call 32; refine (idCut_at _ _ _ _ _ _ (by assumption) (by assumption)).mono ?_; rintro e w_ ⟨rfl, rfl⟩) | ((with_reducible refine gate_callee (f := 31) rfl ?_); refine goesL_ (some 19) rfl rfl Tryd.func31 (by kernel_rfl) rfl #[.slice A123_0 ((rd_L2 l0 x9_1).take ((ji8) : Int).toNat).length c123_0] rfl (by (try simp only [List.map_toArray, List.map_cons, List.map_nil]); first | done | (rw [show ((rd_L2 l0 x9_1).take ((ji8) : Int).toNat).length = (ji8).toNat from (by rw [List.length_take]; have h_ : ((ji8) : Int) ≤ ((rd_L2 l0 x9_1).length : Int) := of_decide_eq_true (by first | (with_reducible assumption) | assumption); omega)] <;> rfl) | (simp only [hji8]; rfl) | rfl | (simp only [List.length_drop, List.length_take]; rfl)) ?_; (with_reducible refine (spec_AnWord.calls k1 _ _ ((rd_L2 l0 x9_1).take ((ji8) : Int).toNat) t125 _ ?side1 ?side2 A11.out).mono ?_); (case side1 => repeat (first | exact (Kd.C_below HR124.out HB.out) | (with_reducible refine Kd.C_alloc ?_ _) | (with_reducible refine Kd.C_drewN ?_ _) | (with_reducible refine Kd.C_drew ?_))); (case side2 => exact HC124.out); rintro e w14 ⟨rfl, hb⟩; refine ⟨_, rfl, ?_⟩; have n0_ := Aside0.mk (Kd.R_below (by (with_reducible repeat (first | apply Kd.R_alloc | apply Kd.R_drewN | apply Kd.R_drew)); exact HO_3.out) hb); have n1_ := Aside0.mk (below_step (by repeat (first | (with_reducible first | exact HB.out | apply below_alloc | apply pw_below_drewN | apply below_drew1) | exact HB.out)) hb); clear HO_3; clear HB; have HO_3 := n0_; have HB := n1_; clear n0_ n1_; (try clear hb); (try clear hb2); (try clear hk); (try clear hi)) | ((with_reducible refine gate_builtin (b := .append) (xs := #[.tmp 16, .tmp 20]) rfl ?_); at_builtin; refine Kd.R_append Kd.string (w0 := w) w.heap.size rfl (.tmp 16) (.tmp 20) 45 9 (.string ⟨#[]⟩) 16 rfl Tryd.underlying45 info9 rfl (by decide) (by omega) u3 x3_1 t125 [.string t125] (fun _ => True) (fun _ => False) rfl rfl ?aP (fun _ hk => hk.elim) ?aF ?aO ?aB ?aS ?aL ?_; (case aP => exact rfl); (case aB => exact (by repeat (first | (with_reducible first | exact HB.out | apply below_alloc | apply pw_below_drewN | apply below_drew1) | exact HB.out))); (case aF => exact (fun _ _ => trivial)); (case aO => exact (by (with_reducible repeat (first | apply Kd.R_alloc | apply Kd.R_drewN | apply Kd.R_drew)); exact HO_3.out)); (case aS => exact (below_size (by repeat (first | (with_reducible first | exact HB.out | apply below_alloc | apply pw_below_drewN | apply below_drew1) | exact HB.out)))); (case aL => have := LMc12.out; omega); intro v127 w15 ho hb hg hat; rw [← Ny126.out] at ho; have n0_ := Aside0.mk (hb); have n1_ := Aside0.mk (ho); clear HB; clear HO_3; have HB := n0_; have HO128 := n1_; clear n0_ n1_; clear ho hb hg hat))
                    go_roundg k1
                    case measure => have := HK1.out; omega
                    case rel => exact ⟨(y126), (wrap64 (x9_1 + 1)), (by first | rfl | (simp; done) | (simp [*]; done)), H', ⟨by have := HK1.out; omega⟩, ⟨by (with_reducible repeat (first | apply Kd.R_alloc | apply Kd.R_drewN | apply Kd.R_drew)); exact HO128.out⟩, ⟨by repeat (first | (with_reducible first | exact HB.out | apply below_alloc | apply pw_below_drewN | apply below_drew1) | exact HB.out)⟩⟩
                  · rw [if_neg c12] at H
                    exact absurd H (by simp)
                · rw [if_neg c10] at H
                  exact absurd H (by simp)
              · rw [if_neg c9] at H
                exact absurd H (by simp)
            · rw [if_neg c7] at H
              have c7b0 : decide (x9_1 < 100) = false := decide_eq_false c7
              clear c7
              have H' := Aside0.mk H
              clear H
              have p123 : 0 ≤ (x9_1 : Int) := of_decide_eq_true (by first | (with_reducible assumption) | assumption)
              have q123 : x9_1 < (l0.length : Int) := of_decide_eq_true (by first | (with_reducible assumption) | assumption)
              obtain ⟨ad123, A123_0, c123_0, e123, hx123_0, hl123_0, hi123_0⟩ := at_L2 HR0.out x9_1 p123 q123
              cases e123
              replace hx123_0 := (HB.out.cell (World.block_lt_of_cell? w _ hx123_0)).trans hx123_0
              have HR123_0 := Aside0.mk hi123_0
              have HC123_0 := Aside0.mk hl123_0
              clear hi123_0 hl123_0
              replace p123 := eq_true p123
              replace q123 := eq_true q123
              go_wp2
              go_roundg k1
              case measure => have := HK1.out; omega
              case rel => exact ⟨(x3_1), (wrap64 (x9_1 + 1)), (by first | rfl | (simp; done) | (simp [*]; done)), H', ⟨by have := HK1.out; omega⟩, ⟨by (with_reducible repeat (first | apply Kd.R_alloc | apply Kd.R_drewN | apply Kd.R_drew)); exact HO_3.out⟩, ⟨by repeat (first | (with_reducible first | exact HB.out | apply below_alloc | apply pw_below_drewN | apply below_drew1) | exact HB.out)⟩⟩
          · rw [if_neg c6] at H
            exact absurd H (by simp)
        · rw [if_neg c5] at H
          exact absurd H (by simp)
      · rw [if_neg c4] at H
        have c4b0 : decide (x9_1 < (l0.length : Int)) = false := decide_eq_false c4
        clear c4
        by_cases c16 : (x3_1.length : Int) = 0
        · rw [if_pos c16] at H
          have c16b0 : ((x3_1.length : Int) == 0) = true := beq_iff_eq.mpr c16
          have c16b1 : ((x3_1.length : Int) != 0) = false := bne_eq_false_iff_eq.mpr c16
          clear c16
          by_cases c17 : x3_1.length < 8796093022208
          · rw [if_pos c17] at H
            have LMc17 := Aside0.mk c17
            clear c17
            obtain ⟨y129, hy129⟩ : ∃ y_ : List ByteArray, y_ = (x3_1 ++ [(⟨#[102]⟩ : ByteArray)]) := ⟨_, rfl⟩
            replace H : (some y129) = some r := by first | (rw [hy129]; with_reducible exact H) | (have H2_ := (Option.bind_some _ _).symm.trans H; rw [hy129]; with_reducible exact H2_) | (have H2_ := (Option.bind_some _ _).symm.trans H; with_reducible exact H2_) | with_reducible exact H | (rw [hy129]; exact H) | exact H
            have Ny129 := Aside0.mk hy129
            clear hy129
            obtain rfl := Option.some.inj H
            obtain ⟨Ao18, co18, eo18⟩ := Kd.R_slice HO_3.out
            subst eo18
            go_wp2_with (first | (go_at_call 32; refine (idCut_at _ _ _ _ _ _ (by assumption) (by assumption)).mono ?_; rintro e w_ ⟨rfl, rfl⟩) | ((with_reducible refine gate_builtin (b := .append) (xs := #[.tmp 26, .tmp 27]) rfl ?_); at_builtin; refine Kd.R_append Kd.string (w0 := w) w.heap.size rfl (.tmp 26) (.tmp 27) 45 9 (.string ⟨#[]⟩) 16 rfl Tryd.underlying45 info9 rfl (by decide) (by omega) (.slice Ao18 x3_1.length co18) x3_1 (⟨#[102]⟩ : ByteArray) [.string (⟨#[102]⟩ : ByteArray)] (fun _ => True) (fun _ => False) rfl rfl ?aP (fun _ hk => hk.elim) ?aF ?aO ?aB ?aS ?aL ?_; (case aP => exact rfl); (case aB => exact (by repeat (first | (with_reducible first | exact HB.out | apply below_alloc | apply pw_below_drewN | apply below_drew1) | exact HB.out))); (case aF => exact (fun _ _ => trivial)); (case aO => exact (by (with_reducible repeat (first | apply Kd.R_alloc | apply Kd.R_drewN | apply Kd.R_drew)); exact HO_3.out)); (case aS => exact (below_size (by repeat (first | (with_reducible first | exact HB.out | apply below_alloc | apply pw_below_drewN | apply below_drew1) | exact HB.out)))); (case aL => have := LMc17.out; omega); intro v130 w19 ho hb hg hat; rw [← Ny129.out] at ho; have n0_ := Aside0.mk (hb); have n1_ := Aside0.mk (ho); clear HB; clear HO_3; have HB := n0_; have HO131 := n1_; clear n0_ n1_; clear ho hb hg hat))
            go_ret
            exact ⟨_, by first | rfl | (simp [errW_none, errW_some] <;> rfl) | (simp [*, errW_none, errW_some] <;> rfl), by (with_reducible repeat (first | apply Kd.R_alloc | apply Kd.R_drewN | apply Kd.R_drew)); exact HO131.out, by repeat (first | (with_reducible first | exact HB.out | apply below_alloc | apply pw_below_drewN | apply below_drew1) | exact HB.out)⟩
          · rw [if_neg c17] at H
            exact absurd H (by simp)
        · rw [if_neg c16] at H
          have c16b0 : ((x3_1.length : Int) == 0) = false := beq_eq_false_iff_ne.mpr c16
          have c16b1 : ((x3_1.length : Int) != 0) = true := bne_iff_ne.mpr c16
          have c16b2 : ¬ (x3_1 = []) := fun h_ => c16 (by rw [h_]; rfl)
          obtain rfl := Option.some.inj H
          obtain ⟨Ao20, co20, eo20⟩ := Kd.R_slice HO_3.out
          subst eo20
          go_wp2
          go_ret
          exact ⟨_, by first | rfl | (simp [errW_none, errW_some] <;> rfl) | (simp [*, errW_none, errW_some] <;> rfl), by (with_reducible repeat (first | apply Kd.R_alloc | apply Kd.R_drewN | apply Kd.R_drew)); exact HO_3.out, by repeat (first | (with_reducible first | exact HB.out | apply below_alloc | apply pw_below_drewN | apply below_drew1) | exact HB.out)⟩

end Go.Proofs.YtpmlnhddkbgefaaDoor.PFnLegacyNoNumber
