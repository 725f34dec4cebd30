/- Written by a program of this session (wip/tools/myprint.py) with the kit's print: contracts of the functions that one statement reaches; functions that are proved by hand are taken as printed. Conditions: none. -/
import Derived.Test.YtpmlnhddkbgefaaDoorPFnLegacyNoHashx0
import Derived.Test.YtpmlnhddkbgefaaDoorPFnLegacyNoHashx1
namespace Go.Proofs.YtpmlnhddkbgefaaDoor.PFnLegacyNoHash
open Go.RowKit Go.Proofs.YtpmlnhddkbgefaaDoorW.PrintWords Go.Proofs.YtpmlnhddkbgefaaDoorW.PrintLast Go.Proofs.YtpmlnhddkbgefaaDoorW.PrintMore
attribute [local go_sem] max2_int min2_int max_two min_two max_three min_three max_four min_four   -- for this text's walks alone
set_option linter.unusedVariables false
set_option linter.unusedSimpArgs false

/-! ### laws_lgWords: function 36 -/
def laws_lgWords.l0 : Nat → List ByteArray → List (List Int) → Int → Int → Option (List ByteArray)
  | 0, _, _, _, _ => none
  | k + 1, x3, x7, x8, x9 => if x9 < x8 then (if 0 ≤ x9 then (if x9 < (x7.length : Int) then (if x9 < 100 then (if 0 ≤ (mn ((rd_L2 x7 x9).length : Int) 1000) then (if (mn ((rd_L2 x7 x9).length : Int) 1000) ≤ ((rd_L2 x7 x9).length : Int) then ((spec_AnWord.f k ((rd_L2 x7 x9).take ((mn ((rd_L2 x7 x9).length : Int) 1000) : Int).toNat)).bind fun t125 => (if x3.length < 8796093022208 then (laws_lgWords.l0 k (x3 ++ [t125]) x7 x8 (wrap64 (x9 + 1))) else (none))) else (none)) else (none)) else (laws_lgWords.l0 k x3 x7 x8 (wrap64 (x9 + 1)))) else (none)) else (none)) else (if (x3.length : Int) = 0 then (if x3.length < 8796093022208 then (some (x3 ++ [(⟨#[102]⟩ : ByteArray)])) else (none)) else (some x3))
def laws_lgWords.f (k : Nat) (l0 : List (List Int)) : Option (List ByteArray) := laws_lgWords.l0 k (([] : List ByteArray)) l0 (l0.length : Int) 0
theorem laws_lgWords.mono_l : ∀ k, (∀ y0 y1 y2 y3, LeO (laws_lgWords.l0 k y0 y1 y2 y3) (laws_lgWords.l0 (k + 1) y0 y1 y2 y3))
  | 0 => fun _ _ _ _ r h => by simp [laws_lgWords.l0] at h
  | k + 1 => by
    have ih0 := laws_lgWords.mono_l k
    · intro y0 y1 y2 y3
      unfold laws_lgWords.l0
      repeat' first
      | (with_reducible exact ih0 _ _ _ _)
      | (with_reducible exact spec_AnWord.mono _ _)
      | (with_reducible exact LeO.refl _)
      | (with_reducible exact LeO.none _)
      | (with_reducible refine LeO.ite ?_ ?_)
      | (with_reducible refine LeO.bind ?_ (fun _ => ?_))
      | exact ih0 _ _ _ _
      | exact spec_AnWord.mono _ _
      | exact LeO.none _
      | refine LeO.ite ?_ ?_
      | refine LeO.bind ?_ (fun _ => ?_)
theorem laws_lgWords.mono : ∀ a0 k, LeO (laws_lgWords.f k a0) (laws_lgWords.f (k + 1) a0) := by
  intro a0 k
  have ih0 := laws_lgWords.mono_l k
  unfold laws_lgWords.f
  repeat' first
      | (with_reducible exact ih0 _ _ _ _)
      | (with_reducible exact spec_AnWord.mono _ _)
      | (with_reducible exact LeO.refl _)
      | (with_reducible exact LeO.none _)
      | (with_reducible refine LeO.ite ?_ ?_)
      | (with_reducible refine LeO.bind ?_ (fun _ => ?_))
      | exact ih0 _ _ _ _
      | exact spec_AnWord.mono _ _
      | exact LeO.none _
      | refine LeO.ite ?_ ?_
      | refine LeO.bind ?_ (fun _ => ?_)
set_option maxHeartbeats 8000000 in
set_option maxRecDepth 100000 in
theorem laws_lgWords.calls (k : Nat) (A0 : Option Addr) (c0 : Nat) (l0 : List (List Int)) (r : List ByteArray) (w : World) (hr0 : Kd.C (Kd.slice 5 (Kd.int .u8)) w A0 l0.length l0) (hc0 : l0.length ≤ c0) (h : laws_lgWords.f k l0 = some r) :
    Calls Tryd.prog 36 #[.slice A0 l0.length c0] w fun e w' => ∃ v0_ : Value, e = .returned (v0_) ∧ Kd.R Kd.string 9 w' w.heap.size (fun _ => True) v0_ r ∧ Below w.heap.size w w' := by
  have HR0 := Aside0.mk hr0
  have HC0 := Aside0.mk hc0
  clear hr0 hc0
  have HB := Aside0.mk (Below.refl w.heap.size w)
  have H : (laws_lgWords.l0 k (([] : List ByteArray)) l0 (l0.length : Int) 0) = some r := h
  clear h
  obtain ⟨y120, hy120⟩ : ∃ y_ : List ByteArray, y_ = (([] : List ByteArray)) := ⟨_, rfl⟩
  replace H : (laws_lgWords.l0 k y120 l0 (l0.length : Int) 0) = some r := by first | (rw [hy120]; with_reducible exact H) | (have H2_ := (Option.bind_some _ _).symm.trans H; rw [hy120]; with_reducible exact H2_) | (have H2_ := (Option.bind_some _ _).symm.trans H; with_reducible exact H2_) | with_reducible exact H | (rw [hy120]; exact H) | exact H
  have Ny120 := Aside0.mk hy120
  clear hy120
  have H' := Aside0.mk H
  clear H
  go_enter Tryd.func36, Tryd.ntmps36
  go_wp2_with (first | (go_at_call 32; refine (idCut_at _ _ _ _ _ _ (by assumption) (by assumption)).mono ?_; rintro e w_ ⟨rfl, rfl⟩) | ((with_reducible refine gate_dst (N := 6) rfl ?_); refine Kd.R_lit Kd.string _ 9 ?hg (N := 6) ?hd (xs := ([] : List ByteArray)) (inner := []) (ok := fun _ => True) (okp := fun _ => True) ?hr ?hp (fun _ hk => hk) trivial (Below.refl _ _) (Nat.le_refl _) (by simp) ?_; (case hd => rfl); (case hg => rfl); (case hr => first | (go_simp; done) | (go_simp; rfl)); (case hp => exact (Reps.none _ _)); intro v121 w2 ho3 hb hg_ hnew_; clear hg_ hnew_; (first | rw [← Ny120.out] at ho3 | (simp only [Int.reduceToNat] at ho3; rw [← Ny120.out] at ho3)); have n0_ := Aside0.mk (Kd.R_lower ho3 (below_size (by repeat (first | (with_reducible first | exact HB.out | apply below_alloc | apply pw_below_drewN | apply below_drew1) | exact HB.out)))); have n1_ := Aside0.mk (below_step (by repeat (first | (with_reducible first | exact HB.out | apply below_alloc | apply pw_below_drewN | apply below_drew1) | exact HB.out)) hb); clear HB; have HO122 := n0_; have HB := n1_; clear n0_ n1_; clear hb ho3))
  go_loopg [3, 9] k (fun kq v3 v9 w' => ∃ (x3_1 : List ByteArray) (x9_1 : Int), v9 = .int .i64 x9_1 ∧ Aside0 (laws_lgWords.l0 kq x3_1 l0 (l0.length : Int) x9_1 = some r) ∧ Aside0 (kq ≤ k) ∧ Aside0 (Kd.R Kd.string 9 w' w.heap.size (fun _ => True) v3 x3_1) ∧ Aside0 (Below w.heap.size w w'))
  case atStart => exact ⟨(y120), (0), (by first | rfl | (simp; done) | (simp [*]; done)), H', ⟨Nat.le_refl _⟩, ⟨by (with_reducible repeat (first | apply Kd.R_alloc | apply Kd.R_drewN | apply Kd.R_drew)); exact HO122.out⟩, ⟨by repeat (first | (with_reducible first | exact HB.out | apply below_alloc | apply pw_below_drewN | apply below_drew1) | exact HB.out)⟩⟩
  case round =>
    clear H'
    try clear p2
    try clear c3
    obtain ⟨x3_1, x9_1, rfl, HA, HK1, HO_3, HB⟩ := hrel
    cases gk with
    | zero => exact absurd HA.out (by simp [laws_lgWords.l0])
    | succ k1 =>
      have H := HA.out
      clear HA
      simp only [laws_lgWords.l0] at H
      by_cases c4 : x9_1 < (l0.length : Int)
      · rw [if_pos c4] at H
        have c4b0 : decide (x9_1 < (l0.length : Int)) = true := decide_eq_true c4
        clear c4
        by_cases c5 : 0 ≤ x9_1
        · rw [if_pos c5] at H
          have c5b0 : decide (0 ≤ x9_1) = true := decide_eq_true c5
          clear c5
          by_cases c6 : x9_1 < (l0.length : Int)
          · rw [if_pos c6] at H
            have c6b0 : decide (x9_1 < (l0.length : Int)) = true := decide_eq_true c6
            clear c6
            by_cases c7 : x9_1 < 100
            · rw [if_pos c7] at H
              have c7b0 : decide (x9_1 < 100) = true := decide_eq_true c7
              clear c7
              obtain ⟨ji8, hji8⟩ : ∃ j_ : Int, (mn ((rd_L2 l0 x9_1).length : Int) 1000) = j_ := ⟨_, rfl⟩
              replace H : (if 0 ≤ (ji8) then (if (ji8) ≤ ((rd_L2 l0 x9_1).length : Int) then ((spec_AnWord.f k1 ((rd_L2 l0 x9_1).take ((ji8) : Int).toNat)).bind fun t125 => (if x3_1.length < 8796093022208 then (laws_lgWords.l0 k1 (x3_1 ++ [t125]) l0 (l0.length : Int) (wrap64 (x9_1 + 1))) else (none))) else (none)) else (none)) = some r := by first | (rw [hji8] at H; exact H) | (simp only [hji8] at H ⊢; exact H)
              have hji8_ : (if 1000 < ((rd_L2 l0 x9_1).length : Int) then 1000 else ((rd_L2 l0 x9_1).length : Int)) = ji8 := hji8
              by_cases c9 : 0 ≤ (ji8)
              · rw [if_pos c9] at H
                have c9b0 := eq_true c9
                have c9b1 : decide (0 ≤ (ji8)) = true := decide_eq_true c9
                clear c9
                by_cases c10 : (ji8) ≤ ((rd_L2 l0 x9_1).length : Int)
                · rw [if_pos c10] at H
                  have c10b0 := eq_true c10
                  have c10b1 : decide ((ji8) ≤ ((rd_L2 l0 x9_1).length : Int)) = true := decide_eq_true c10
                  clear c10
                  replace H := Option.bind_eq_some_iff.mp H
                  obtain ⟨t125, A110, H⟩ := H
                  replace H : (if x3_1.length < 8796093022208 then (laws_lgWords.l0 k1 (x3_1 ++ [t125]) l0 (l0.length : Int) (wrap64 (x9_1 + 1))) else (none)) = some r := H
                  have A11 := Aside0.mk A110
                  clear A110
                  by_cases c12 : x3_1.length < 8796093022208
                  · rw [if_pos c12] at H
                    have LMc12 := Aside0.mk c12
                    clear c12
                    obtain ⟨y126, hy126⟩ : ∃ y_ : List ByteArray, y_ = (x3_1 ++ [t125]) := ⟨_, rfl⟩
                    replace H : (laws_lgWords.l0 k1 y126 l0 (l0.length : Int) (wrap64 (x9_1 + 1))) = some r := by first | (rw [hy126]; with_reducible exact H) | (have H2_ := (Option.bind_some _ _).symm.trans H; rw [hy126]; with_reducible exact H2_) | (have H2_ := (Option.bind_some _ _).symm.trans H; with_reducible exact H2_) | with_reducible exact H | (rw [hy126]; exact H) | exact H
                    have Ny126 := Aside0.mk hy126
                    clear hy126
                    have H' := Aside0.mk H
                    clear H
                    have p123 : 0 ≤ (x9_1 : Int) := of_decide_eq_true (by first | (with_reducible assumption) | assumption)
                    have q123 : x9_1 < (l0.length : Int) := of_decide_eq_true (by first | (with_reducible assumption) | assumption)
                    obtain ⟨ad123, A123_0, c123_0, e123, hx123_0, hl123_0, hi123_0⟩ := at_L2 HR0.out x9_1 p123 q123
                    cases e123
                    replace hx123_0 := (HB.out.cell (World.block_lt_of_cell? w _ hx123_0)).trans hx123_0
                    have HR123_0 := Aside0.mk hi123_0
                    have HC123_0 := Aside0.mk hl123_0
                    clear hi123_0 hl123_0
                    replace p123 := eq_true p123
                    replace q123 := eq_true q123
                    obtain ⟨i013, hi013, _, hsz13, _⟩ := info_parts info5
                    obtain ⟨hcut13, hA13, hC13⟩ := print_take_of (P := Tryd.prog) (Value.int .u8) 0 27 5 .i64 Tryd.underlying27 hi013 hsz13 A123_0 c123_0 (rd_L2 l0 x9_1) (ji8) (of_decide_eq_true (by first | (with_reducible assumption) | assumption)) (of_decide_eq_true (by first | (with_reducible assumption) | assumption)) HC123_0.out
                    have HR124 := Aside0.mk (Kd.C_of_reads (h1 := fun _ => rfl) (hA13 _ (Kd.reads_of_C HR123_0.out)))
                    have HC124 := Aside0.mk hC13
                    clear hA13 hC13 hi013 hsz13
                    go_wp2_with (first | (go_at_call 32; refine (idCut_at _ _ _ _ _ _ (by assumption) (by assumption)).mono ?_; rintro e w_ ⟨rfl, rfl⟩) | ((with_reducible refine gate_callee (f := 31) rfl ?_); refine goesL_ (some 19) rfl rfl Tryd.func31 (by kernel_rfl) rfl #[.slice A123_0 ((rd_L2 l0 x9_1).take ((ji8) : Int).toNat).length c123_0] rfl (by (try simp only [List.map_toArray, List.map_cons, List.map_nil]); first | done | (rw [show ((rd_L2 l0 x9_1).take ((ji8) : Int).toNat).length = (ji8).toNat from (by rw [List.length_take]; have h_ : ((ji8) : Int) ≤ ((rd_L2 l0 x9_1).length : Int) := of_decide_eq_true (by first | (with_reducible assumption) | assumption); omega)] <;> rfl) | (simp only [hji8]; rfl) | rfl | (simp only [List.length_drop, List.length_take]; rfl)) ?_; (with_reducible refine (spec_AnWord.calls k1 _ _ ((rd_L2 l0 x9_1).take ((ji8) : Int).toNat) t125 _ ?side1 ?side2 A11.out).mono ?_); (case side1 => repeat (first | exact (Kd.C_below HR124.out HB.out) | (with_reducible refine Kd.C_alloc ?_ _) | (with_reducible refine Kd.C_drewN ?_ _) | (with_reducible refine Kd.C_drew ?_))); (case side2 => exact HC124.out); rintro e w14 ⟨rfl, hb⟩; refine ⟨_, rfl, ?_⟩; have n0_ := Aside0.mk (Kd.R_below (by (with_reducible repeat (first | apply Kd.R_alloc | apply Kd.R_drewN | apply Kd.R_drew)); exact HO_3.out) hb); have n1_ := Aside0.mk (below_step (by repeat (first | (with_reducible first | exact HB.out | apply below_alloc | apply pw_below_drewN | apply below_drew1) | exact HB.out)) hb); clear HO_3; clear HB; have HO_3 := n0_; have HB := n1_; clear n0_ n1_; (try clear hb); (try clear hb2); (try clear hk); (try clear hi)) | ((with_reducible refine gate_builtin (b := .append) (xs := #[.tmp 16, .tmp 20]) rfl ?_); at_builtin; refine Kd.R_append Kd.string (w0 := w) w.heap.size rfl (.tmp 16) (.tmp 20) 45 9 (.string ⟨#[]⟩) 16 rfl Tryd.underlying45 info9 rfl (by decide) (by omega) u3 x3_1 t125 [.string t125] (fun _ => True) (fun _ => False) rfl rfl ?aP (fun _ hk => hk.elim) ?aF ?aO ?aB ?aS ?aL ?_; (case aP => exact rfl); (case aB => exact (by repeat (first | (with_reducible first | exact HB.out | apply below_alloc | apply pw_below_drewN | apply below_drew1) | exact HB.out))); (case aF => exact (fun _ _ => trivial)); (case aO => exact (by (with_reducible repeat (first | apply Kd.R_alloc | apply Kd.R_drewN | apply Kd.R_drew)); exact HO_3.out)); (case aS => exact (below_size (by repeat (first | (with_reducible first | exact HB.out | apply below_alloc | apply pw_below_drewN | apply below_drew1) | exact HB.out)))); (case aL => have := LMc12.out; omega); intro v127 w15 ho hb hg hat; rw [← Ny126.out] at ho; have n0_ := Aside0.mk (hb); have n1_ := Aside0.mk (ho); clear HB; clear HO_3; have HB := n0_; have HO128 := n1_; clear n0_ n1_; clear ho hb hg hat))
                    go_roundg k1
                    case measure => have := HK1.out; omega
                    case rel => exact ⟨(y126), (wrap64 (x9_1 + 1)), (by first | rfl | (simp; done) | (simp [*]; done)), H', ⟨by have := HK1.out; omega⟩, ⟨by (with_reducible repeat (first | apply Kd.R_alloc | apply Kd.R_drewN | apply Kd.R_drew)); exact HO128.out⟩, ⟨by repeat (first | (with_reducible first | exact HB.out | apply below_alloc | apply pw_below_drewN | apply below_drew1) | exact HB.out)⟩⟩
                  · rw [if_neg c12] at H
                    exact absurd H (by simp)
                · rw [if_neg c10] at H
                  exact absurd H (by simp)
              · rw [if_neg c9] at H
                exact absurd H (by simp)
            · rw [if_neg c7] at H
              have c7b0 : decide (x9_1 < 100) = false := decide_eq_false c7
              clear c7
              have H' := Aside0.mk H
              clear H
              have p123 : 0 ≤ (x9_1 : Int) := of_decide_eq_true (by first | (with_reducible assumption) | assumption)
              have q123 : x9_1 < (l0.length : Int) := of_decide_eq_true (by first | (with_reducible assumption) | assumption)
              obtain ⟨ad123, A123_0, c123_0, e123, hx123_0, hl123_0, hi123_0⟩ := at_L2 HR0.out x9_1 p123 q123
              cases e123
              replace hx123_0 := (HB.out.cell (World.block_lt_of_cell? w _ hx123_0)).trans hx123_0
              have HR123_0 := Aside0.mk hi123_0
              have HC123_0 := Aside0.mk hl123_0
              clear hi123_0 hl123_0
              replace p123 := eq_true p123
              replace q123 := eq_true q123
              go_wp2
              go_roundg k1
              case measure => have := HK1.out; omega
              case rel => exact ⟨(x3_1), (wrap64 (x9_1 + 1)), (by first | rfl | (simp; done) | (simp [*]; done)), H', ⟨by have := HK1.out; omega⟩, ⟨by (with_reducible repeat (first | apply Kd.R_alloc | apply Kd.R_drewN | apply Kd.R_drew)); exact HO_3.out⟩, ⟨by repeat (first | (with_reducible first | exact HB.out | apply below_alloc | apply pw_below_drewN | apply below_drew1) | exact HB.out)⟩⟩
          · rw [if_neg c6] at H
            exact absurd H (by simp)
        · rw [if_neg c5] at H
          exact absurd H (by simp)
      · rw [if_neg c4] at H
        have c4b0 : decide (x9_1 < (l0.length : Int)) = false := decide_eq_false c4
        clear c4
        by_cases c16 : (x3_1.length : Int) = 0
        · rw [if_pos c16] at H
          have c16b0 : ((x3_1.length : Int) == 0) = true := beq_iff_eq.mpr c16
          have c16b1 : ((x3_1.length : Int) != 0) = false := bne_eq_false_iff_eq.mpr c16
          clear c16
          by_cases c17 : x3_1.length < 8796093022208
          · rw [if_pos c17] at H
            have LMc17 := Aside0.mk c17
            clear c17
            obtain ⟨y129, hy129⟩ : ∃ y_ : List ByteArray, y_ = (x3_1 ++ [(⟨#[102]⟩ : ByteArray)]) := ⟨_, rfl⟩
            replace H : (some y129) = some r := by first | (rw [hy129]; with_reducible exact H) | (have H2_ := (Option.bind_some _ _).symm.trans H; rw [hy129]; with_reducible exact H2_) | (have H2_ := (Option.bind_some _ _).symm.trans H; with_reducible exact H2_) | with_reducible exact H | (rw [hy129]; exact H) | exact H
            have Ny129 := Aside0.mk hy129
            clear hy129
            obtain rfl := Option.some.inj H
            obtain ⟨Ao18, co18, eo18⟩ := Kd.R_slice HO_3.out
            subst eo18
            go_wp2_with (first | (go_at_call 32; refine (idCut_at _ _ _ _ _ _ (by assumption) (by assumption)).mono ?_; rintro e w_ ⟨rfl, rfl⟩) | ((with_reducible refine gate_builtin (b := .append) (xs := #[.tmp 26, .tmp 27]) rfl ?_); at_builtin; refine Kd.R_append Kd.string (w0 := w) w.heap.size rfl (.tmp 26) (.tmp 27) 45 9 (.string ⟨#[]⟩) 16 rfl Tryd.underlying45 info9 rfl (by decide) (by omega) (.slice Ao18 x3_1.length co18) x3_1 (⟨#[102]⟩ : ByteArray) [.string (⟨#[102]⟩ : ByteArray)] (fun _ => True) (fun _ => False) rfl rfl ?aP (fun _ hk => hk.elim) ?aF ?aO ?aB ?aS ?aL ?_; (case aP => exact rfl); (case aB => exact (by repeat (first | (with_reducible first | exact HB.out | apply below_alloc | apply pw_below_drewN | apply below_drew1) | exact HB.out))); (case aF => exact (fun _ _ => trivial)); (case aO => exact (by (with_reducible repeat (first | apply Kd.R_alloc | apply Kd.R_drewN | apply Kd.R_drew)); exact HO_3.out)); (case aS => exact (below_size (by repeat (first | (with_reducible first | exact HB.out | apply below_alloc | apply pw_below_drewN | apply below_drew1) | exact HB.out)))); (case aL => have := LMc17.out; omega); intro v130 w19 ho hb hg hat; rw [← Ny129.out] at ho; have n0_ := Aside0.mk (hb); have n1_ := Aside0.mk (ho); clear HB; clear HO_3; have HB := n0_; have HO131 := n1_; clear n0_ n1_; clear ho hb hg hat))
            go_ret
            exact ⟨_, by first | rfl | (simp [errW_none, errW_some] <;> rfl) | (simp [*, errW_none, errW_some] <;> rfl), by (with_reducible repeat (first | apply Kd.R_alloc | apply Kd.R_drewN | apply Kd.R_drew)); exact HO131.out, by repeat (first | (with_reducible first | exact HB.out | apply below_alloc | apply pw_below_drewN | apply below_drew1) | exact HB.out)⟩
          · rw [if_neg c17] at H
            exact absurd H (by simp)
        · rw [if_neg c16] at H
          have c16b0 : ((x3_1.length : Int) == 0) = false := beq_eq_false_iff_ne.mpr c16
          have c16b1 : ((x3_1.length : Int) != 0) = true := bne_iff_ne.mpr c16
          have c16b2 : ¬ (x3_1 = []) := fun h_ => c16 (by rw [h_]; rfl)
          obtain rfl := Option.some.inj H
          obtain ⟨Ao20, co20, eo20⟩ := Kd.R_slice HO_3.out
          subst eo20
          go_wp2
          go_ret
          exact ⟨_, by first | rfl | (simp [errW_none, errW_some] <;> rfl) | (simp [*, errW_none, errW_some] <;> rfl), by (with_reducible repeat (first | apply Kd.R_alloc | apply Kd.R_drewN | apply Kd.R_drew)); exact HO_3.out, by repeat (first | (with_reducible first | exact HB.out | apply below_alloc | apply pw_below_drewN | apply below_drew1) | exact HB.out)⟩

/-! ### laws_FnLegacyNoHash: function 10 -/
def laws_FnLegacyNoHash.j0 : Nat → List (List Int) → List Int → Int → Int → Bool → Option (Bool)
  | 0, _, _, _, _, _ => none
  | k + 1, x0, x1, x2, x3, x23 => if x23 = true then (some true) else ((laws_lgWords.f k x0).bind fun t133 => ((laws_lgHash.f x1).bind fun bt136 => ((laws_idAt.f x2 16).bind fun t138 => (if 0 ≤ t138 then (if t138 ≤ (bt136.1.size : Int) then (if 0 ≤ (Int.tmod x3 20) then (if (Int.tmod x3 20) ≤ (((Int.tmod x3 20) + 1) % 256) then (if (((Int.tmod x3 20) + 1) % 256) ≤ 20 then (if (bt136.1.extract 0 (t138 : Int).toNat).size + ((⟨#[103, 104, 105, 106, 107, 108, 109, 110, 111, 112, 113, 114, 115, 116, 117, 118, 119, 120, 121, 122]⟩ : ByteArray).extract ((Int.tmod x3 20) : Int).toNat ((((Int.tmod x3 20) + 1) % 256) : Int).toNat).size ≤ 9223372036854775807 then (if 0 ≤ (wrap64 (t138 + 1)) then (if (wrap64 (t138 + 1)) ≤ (bt136.1.size : Int) then (if ((bt136.1.extract 0 (t138 : Int).toNat) ++ ((⟨#[103, 104, 105, 106, 107, 108, 109, 110, 111, 112, 113, 114, 115, 116, 117, 118, 119, 120, 121, 122]⟩ : ByteArray).extract ((Int.tmod x3 20) : Int).toNat ((((Int.tmod x3 20) + 1) % 256) : Int).toNat)).size + (bt136.1.extract ((wrap64 (t138 + 1)) : Int).toNat bt136.1.size).size ≤ 9223372036854775807 then ((spec_LgSymbol.f k t133 (((bt136.1.extract 0 (t138 : Int).toNat) ++ ((⟨#[103, 104, 105, 106, 107, 108, 109, 110, 111, 112, 113, 114, 115, 116, 117, 118, 119, 120, 121, 122]⟩ : ByteArray).extract ((Int.tmod x3 20) : Int).toNat ((((Int.tmod x3 20) + 1) % 256) : Int).toNat)) ++ (bt136.1.extract ((wrap64 (t138 + 1)) : Int).toNat bt136.1.size))).bind fun t139 => ((impl_Old.f t139 false false false false false false false 0).bind fun bt140 => (if bt140.2 = true then (some false) else (if bt136.2 = true then ((spec_LgPath.f k t133).bind fun t142 => ((laws_lgTold.f k t133 bt136.1 t142).bind fun t143 => (some t143))) else (some true))))) else (none)) else (none)) else (none)) else (none)) else (none)) else (none)) else (none)) else (none)) else (none)))))
def laws_FnLegacyNoHash.f (k : Nat) (l0 : List (List Int)) (l1 : List Int) (a2 : Int) (a3 : Int) : Option (Bool) := (laws_zzFits1.f k l0).bind fun t132 => (if t132 = true then (laws_FnLegacyNoHash.j0 k l0 l1 a2 a3 (decide ((l1.length : Int) > 2147483647))) else (laws_FnLegacyNoHash.j0 k l0 l1 a2 a3 true))
theorem laws_FnLegacyNoHash.mono_l : ∀ k, (∀ y0 y1 y2 y3 y4, LeO (laws_FnLegacyNoHash.j0 k y0 y1 y2 y3 y4) (laws_FnLegacyNoHash.j0 (k + 1) y0 y1 y2 y3 y4))
  | 0 => fun _ _ _ _ _ r h => by simp [laws_FnLegacyNoHash.j0] at h
  | k + 1 => by
    have ih0 := laws_FnLegacyNoHash.mono_l k
    · intro y0 y1 y2 y3 y4
      unfold laws_FnLegacyNoHash.j0
      repeat' first
      | (with_reducible exact ih0 _ _ _ _ _)
      | (with_reducible exact laws_lgTold.mono _ _ _ _)
      | (with_reducible exact laws_lgWords.mono _ _)
      | (with_reducible exact laws_zzFits1.mono _ _)
      | (with_reducible exact spec_LgPath.mono _ _)
      | (with_reducible exact spec_LgSymbol.mono _ _ _)
      | (with_reducible exact LeO.refl _)
      | (with_reducible exact LeO.none _)
      | (with_reducible refine LeO.ite ?_ ?_)
      | (with_reducible refine LeO.bind ?_ (fun _ => ?_))
      | exact ih0 _ _ _ _ _
      | exact laws_lgTold.mono _ _ _ _
      | exact laws_lgWords.mono _ _
      | exact laws_zzFits1.mono _ _
      | exact spec_LgPath.mono _ _
      | exact spec_LgSymbol.mono _ _ _
      | exact LeO.none _
      | refine LeO.ite ?_ ?_
      | refine LeO.bind ?_ (fun _ => ?_)
theorem laws_FnLegacyNoHash.mono : ∀ a0 a1 a2 a3 k, LeO (laws_FnLegacyNoHash.f k a0 a1 a2 a3) (laws_FnLegacyNoHash.f (k + 1) a0 a1 a2 a3) := by
  intro a0 a1 a2 a3 k
  have ih0 := laws_FnLegacyNoHash.mono_l k
  unfold laws_FnLegacyNoHash.f
  repeat' first
      | (with_reducible exact ih0 _ _ _ _ _)
      | (with_reducible exact laws_lgTold.mono _ _ _ _)
      | (with_reducible exact laws_lgWords.mono _ _)
      | (with_reducible exact laws_zzFits1.mono _ _)
      | (with_reducible exact spec_LgPath.mono _ _)
      | (with_reducible exact spec_LgSymbol.mono _ _ _)
      | (with_reducible exact LeO.refl _)
      | (with_reducible exact LeO.none _)
      | (with_reducible refine LeO.ite ?_ ?_)
      | (with_reducible refine LeO.bind ?_ (fun _ => ?_))
      | exact ih0 _ _ _ _ _
      | exact laws_lgTold.mono _ _ _ _
      | exact laws_lgWords.mono _ _
      | exact laws_zzFits1.mono _ _
      | exact spec_LgPath.mono _ _
      | exact spec_LgSymbol.mono _ _ _
      | exact LeO.none _
      | refine LeO.ite ?_ ?_
      | refine LeO.bind ?_ (fun _ => ?_)
set_option maxHeartbeats 8000000 in
set_option maxRecDepth 100000 in
theorem laws_FnLegacyNoHash.calls (k : Nat) (A0 : Option Addr) (c0 : Nat) (l0 : List (List Int)) (A1 : Option Addr) (c1 : Nat) (l1 : List Int) (a2 : Int) (a3 : Int) (r : Bool) (w : World) (hr0 : Kd.C (Kd.slice 5 (Kd.int .u8)) w A0 l0.length l0) (hc0 : l0.length ≤ c0) (hr1 : Kd.C (Kd.int .u8) w A1 l1.length l1) (hc1 : l1.length ≤ c1) (hT_ : StrIs w) (h : laws_FnLegacyNoHash.f k l0 l1 a2 a3 = some r) :
    Calls Tryd.prog 10 #[.slice A0 l0.length c0, .slice A1 l1.length c1, .int .i64 a2, .int .u8 a3] w fun e w' => e = .returned (.bool r) ∧ Below w.heap.size w w' := by
  have hu67 := Tryd.underlying67
  have HR0 := Aside0.mk hr0
  have HC0 := Aside0.mk hc0
  clear hr0 hc0
  have HR1 := Aside0.mk hr1
  have HC1 := Aside0.mk hc1
  clear hr1 hc1
  have HB := Aside0.mk (Below.refl w.heap.size w)
  have H : ((laws_zzFits1.f k l0).bind fun t132 => (if t132 = true then (laws_FnLegacyNoHash.j0 k l0 l1 a2 a3 (decide ((l1.length : Int) > 2147483647))) else (laws_FnLegacyNoHash.j0 k l0 l1 a2 a3 true))) = some r := h
  clear h
  have HC5 := Aside0.mk H
  clear H
  go_enter Tryd.func10, Tryd.ntmps10
  go_upto_region 1 with (fail)
  repeat (go_quiet (fail); go_upto_region 1 with (fail))
  go_cut [23] (fun v23 wc => ∃ (kq : Nat) (x23_4 : Bool), v23 = .bool x23_4 ∧ Aside0 (laws_FnLegacyNoHash.j0 kq l0 l1 a2 a3 x23_4 = some r) ∧ Aside0 (kq ≤ k) ∧ Aside0 (Below w.heap.size w wc))
  case first =>
    have H := HC5.out
    clear HC5
    replace H := Option.bind_eq_some_iff.mp H
    obtain ⟨t132, A60, H⟩ := H
    replace H : (if t132 = true then (laws_FnLegacyNoHash.j0 k l0 l1 a2 a3 (decide ((l1.length : Int) > 2147483647))) else (laws_FnLegacyNoHash.j0 k l0 l1 a2 a3 true)) = some r := H
    have A6 := Aside0.mk A60
    clear A60
    by_cases c7 : t132 = true
    · subst c7
      have H1 : (laws_FnLegacyNoHash.j0 k l0 l1 a2 a3 (decide ((l1.length : Int) > 2147483647))) = some r := by rw [if_pos rfl] at H; exact H
      clear H
      have H := H1
      clear H1
      have H' := Aside0.mk H
      clear H
      go_wp2_with (first | (go_at_call 32; refine (idCut_at _ _ _ _ _ _ (by assumption) (by assumption)).mono ?_; rintro e w_ ⟨rfl, rfl⟩) | (go_at_call 35; (with_reducible refine (laws_zzFits1.calls k _ _ l0 true _ ?side1 ?side2 A6.out).mono ?_); (case side1 => repeat (first | exact (Kd.C_below HR0.out HB.out) | (with_reducible refine Kd.C_alloc ?_ _) | (with_reducible refine Kd.C_drewN ?_ _) | (with_reducible refine Kd.C_drew ?_))); (case side2 => exact HC0.out); rintro e w' ⟨rfl, ⟨nd, rfl⟩⟩; (try first | exact ⟨rfl, _, World.drewN_drewN _ _ _⟩ | exact ⟨rfl, _, Eq.trans (World.drewN_drewN _ _ _) (congrArg (World.drewN _) (Nat.add_assoc _ _ _))⟩)))
      repeat (go_quiet (first | (go_at_call 35; (with_reducible refine (laws_zzFits1.calls k _ _ l0 true _ ?side1 ?side2 A6.out).mono ?_); (case side1 => repeat (first | exact (Kd.C_below HR0.out HB.out) | (with_reducible refine Kd.C_alloc ?_ _) | (with_reducible refine Kd.C_drewN ?_ _) | (with_reducible refine Kd.C_drew ?_))); (case side2 => exact HC0.out); rintro e w' ⟨rfl, ⟨nd, rfl⟩⟩; (try first | exact ⟨rfl, _, World.drewN_drewN _ _ _⟩ | exact ⟨rfl, _, Eq.trans (World.drewN_drewN _ _ _) (congrArg (World.drewN _) (Nat.add_assoc _ _ _))⟩))); try go_wp2_with (first | (go_at_call 32; refine (idCut_at _ _ _ _ _ _ (by assumption) (by assumption)).mono ?_; rintro e w_ ⟨rfl, rfl⟩) | (go_at_call 35; (with_reducible refine (laws_zzFits1.calls k _ _ l0 true _ ?side1 ?side2 A6.out).mono ?_); (case side1 => repeat (first | exact (Kd.C_below HR0.out HB.out) | (with_reducible refine Kd.C_alloc ?_ _) | (with_reducible refine Kd.C_drewN ?_ _) | (with_reducible refine Kd.C_drew ?_))); (case side2 => exact HC0.out); rintro e w' ⟨rfl, ⟨nd, rfl⟩⟩; (try first | exact ⟨rfl, _, World.drewN_drewN _ _ _⟩ | exact ⟨rfl, _, Eq.trans (World.drewN_drewN _ _ _) (congrArg (World.drewN _) (Nat.add_assoc _ _ _))⟩))))
      go_meet
      case rel => exact ⟨_, (decide ((l1.length : Int) > 2147483647)), (by first | rfl | (simp; done) | (simp [*]; done)), H', ⟨by first | omega | exact Nat.le_refl _⟩, ⟨by repeat (first | (with_reducible first | exact HB.out | apply below_alloc | apply pw_below_drewN | apply below_drew1) | exact HB.out)⟩⟩
    · replace c7 := Bool.eq_false_iff.mpr c7
      subst c7
      have H1 : (laws_FnLegacyNoHash.j0 k l0 l1 a2 a3 true) = some r := by rw [if_neg (show ¬ (false = true) by decide)] at H; exact H
      clear H
      have H := H1
      clear H1
      have H' := Aside0.mk H
      clear H
      go_wp2_with (first | (go_at_call 32; refine (idCut_at _ _ _ _ _ _ (by assumption) (by assumption)).mono ?_; rintro e w_ ⟨rfl, rfl⟩) | (go_at_call 35; (with_reducible refine (laws_zzFits1.calls k _ _ l0 false _ ?side1 ?side2 A6.out).mono ?_); (case side1 => repeat (first | exact (Kd.C_below HR0.out HB.out) | (with_reducible refine Kd.C_alloc ?_ _) | (with_reducible refine Kd.C_drewN ?_ _) | (with_reducible refine Kd.C_drew ?_))); (case side2 => exact HC0.out); rintro e w' ⟨rfl, ⟨nd, rfl⟩⟩; (try first | exact ⟨rfl, _, World.drewN_drewN _ _ _⟩ | exact ⟨rfl, _, Eq.trans (World.drewN_drewN _ _ _) (congrArg (World.drewN _) (Nat.add_assoc _ _ _))⟩)))
      repeat (go_quiet (first | (go_at_call 35; (with_reducible refine (laws_zzFits1.calls k _ _ l0 false _ ?side1 ?side2 A6.out).mono ?_); (case side1 => repeat (first | exact (Kd.C_below HR0.out HB.out) | (with_reducible refine Kd.C_alloc ?_ _) | (with_reducible refine Kd.C_drewN ?_ _) | (with_reducible refine Kd.C_drew ?_))); (case side2 => exact HC0.out); rintro e w' ⟨rfl, ⟨nd, rfl⟩⟩; (try first | exact ⟨rfl, _, World.drewN_drewN _ _ _⟩ | exact ⟨rfl, _, Eq.trans (World.drewN_drewN _ _ _) (congrArg (World.drewN _) (Nat.add_assoc _ _ _))⟩))); try go_wp2_with (first | (go_at_call 32; refine (idCut_at _ _ _ _ _ _ (by assumption) (by assumption)).mono ?_; rintro e w_ ⟨rfl, rfl⟩) | (go_at_call 35; (with_reducible refine (laws_zzFits1.calls k _ _ l0 false _ ?side1 ?side2 A6.out).mono ?_); (case side1 => repeat (first | exact (Kd.C_below HR0.out HB.out) | (with_reducible refine Kd.C_alloc ?_ _) | (with_reducible refine Kd.C_drewN ?_ _) | (with_reducible refine Kd.C_drew ?_))); (case side2 => exact HC0.out); rintro e w' ⟨rfl, ⟨nd, rfl⟩⟩; (try first | exact ⟨rfl, _, World.drewN_drewN _ _ _⟩ | exact ⟨rfl, _, Eq.trans (World.drewN_drewN _ _ _) (congrArg (World.drewN _) (Nat.add_assoc _ _ _))⟩))))
      go_meet
      case rel => exact ⟨_, (true), (by first | rfl | (simp; done) | (simp [*]; done)), H', ⟨by first | omega | exact Nat.le_refl _⟩, ⟨by repeat (first | (with_reducible first | exact HB.out | apply below_alloc | apply pw_below_drewN | apply below_drew1) | exact HB.out)⟩⟩
  case rest =>
    clear HC5
    try clear c1
    try clear p2
    try clear c7
    obtain ⟨kq, x23_4, rfl, HA, HJ4, HB⟩ := hcut
    cases kq with
    | zero => exact absurd HA.out (by simp [laws_FnLegacyNoHash.j0])
    | succ kj4 =>
      have H := HA.out
      clear HA
      simp only [laws_FnLegacyNoHash.j0] at H
      by_cases c8 : x23_4 = true
      · subst c8
        have H1 : (some true) = some r := by rw [if_pos rfl] at H; exact H
        clear H
        have H := H1
        clear H1
        obtain rfl := Option.some.inj H
        go_wp2
        repeat (go_quiet (fail); try go_wp2)
        go_ret
        exact ⟨by first | rfl | (simp [errW_none, errW_some] <;> rfl) | (simp [*, errW_none, errW_some] <;> rfl), by repeat (first | (with_reducible first | exact HB.out | apply below_alloc | apply pw_below_drewN | apply below_drew1) | exact HB.out)⟩
      · replace c8 := Bool.eq_false_iff.mpr c8
        subst c8
        have H1 : ((laws_lgWords.f kj4 l0).bind fun t133 => ((laws_lgHash.f l1).bind fun bt136 => ((laws_idAt.f a2 16).bind fun t138 => (if 0 ≤ t138 then (if t138 ≤ (bt136.1.size : Int) then (if 0 ≤ (Int.tmod a3 20) then (if (Int.tmod a3 20) ≤ (((Int.tmod a3 20) + 1) % 256) then (if (((Int.tmod a3 20) + 1) % 256) ≤ 20 then (if (bt136.1.extract 0 (t138 : Int).toNat).size + ((⟨#[103, 104, 105, 106, 107, 108, 109, 110, 111, 112, 113, 114, 115, 116, 117, 118, 119, 120, 121, 122]⟩ : ByteArray).extract ((Int.tmod a3 20) : Int).toNat ((((Int.tmod a3 20) + 1) % 256) : Int).toNat).size ≤ 9223372036854775807 then (if 0 ≤ (wrap64 (t138 + 1)) then (if (wrap64 (t138 + 1)) ≤ (bt136.1.size : Int) then (if ((bt136.1.extract 0 (t138 : Int).toNat) ++ ((⟨#[103, 104, 105, 106, 107, 108, 109, 110, 111, 112, 113, 114, 115, 116, 117, 118, 119, 120, 121, 122]⟩ : ByteArray).extract ((Int.tmod a3 20) : Int).toNat ((((Int.tmod a3 20) + 1) % 256) : Int).toNat)).size + (bt136.1.extract ((wrap64 (t138 + 1)) : Int).toNat bt136.1.size).size ≤ 9223372036854775807 then ((spec_LgSymbol.f kj4 t133 (((bt136.1.extract 0 (t138 : Int).toNat) ++ ((⟨#[103, 104, 105, 106, 107, 108, 109, 110, 111, 112, 113, 114, 115, 116, 117, 118, 119, 120, 121, 122]⟩ : ByteArray).extract ((Int.tmod a3 20) : Int).toNat ((((Int.tmod a3 20) + 1) % 256) : Int).toNat)) ++ (bt136.1.extract ((wrap64 (t138 + 1)) : Int).toNat bt136.1.size))).bind fun t139 => ((impl_Old.f t139 false false false false false false false 0).bind fun bt140 => (if bt140.2 = true then (some false) else (if bt136.2 = true then ((spec_LgPath.f kj4 t133).bind fun t142 => ((laws_lgTold.f kj4 t133 bt136.1 t142).bind fun t143 => (some t143))) else (some true))))) else (none)) else (none)) else (none)) else (none)) else (none)) else (none)) else (none)) else (none)) else (none))))) = some r := by rw [if_neg (show ¬ (false = true) by decide)] at H; exact H
        clear H
        have H := H1
        clear H1
        replace H := Option.bind_eq_some_iff.mp H
        obtain ⟨t133, A90, H⟩ := H
        replace H : ((laws_lgHash.f l1).bind fun bt136 => ((laws_idAt.f a2 16).bind fun t138 => (if 0 ≤ t138 then (if t138 ≤ (bt136.1.size : Int) then (if 0 ≤ (Int.tmod a3 20) then (if (Int.tmod a3 20) ≤ (((Int.tmod a3 20) + 1) % 256) then (if (((Int.tmod a3 20) + 1) % 256) ≤ 20 then (if (bt136.1.extract 0 (t138 : Int).toNat).size + ((⟨#[103, 104, 105, 106, 107, 108, 109, 110, 111, 112, 113, 114, 115, 116, 117, 118, 119, 120, 121, 122]⟩ : ByteArray).extract ((Int.tmod a3 20) : Int).toNat ((((Int.tmod a3 20) + 1) % 256) : Int).toNat).size ≤ 9223372036854775807 then (if 0 ≤ (wrap64 (t138 + 1)) then (if (wrap64 (t138 + 1)) ≤ (bt136.1.size : Int) then (if ((bt136.1.extract 0 (t138 : Int).toNat) ++ ((⟨#[103, 104, 105, 106, 107, 108, 109, 110, 111, 112, 113, 114, 115, 116, 117, 118, 119, 120, 121, 122]⟩ : ByteArray).extract ((Int.tmod a3 20) : Int).toNat ((((Int.tmod a3 20) + 1) % 256) : Int).toNat)).size + (bt136.1.extract ((wrap64 (t138 + 1)) : Int).toNat bt136.1.size).size ≤ 9223372036854775807 then ((spec_LgSymbol.f kj4 t133 (((bt136.1.extract 0 (t138 : Int).toNat) ++ ((⟨#[103, 104, 105, 106, 107, 108, 109, 110, 111, 112, 113, 114, 115, 116, 117, 118, 119, 120, 121, 122]⟩ : ByteArray).extract ((Int.tmod a3 20) : Int).toNat ((((Int.tmod a3 20) + 1) % 256) : Int).toNat)) ++ (bt136.1.extract ((wrap64 (t138 + 1)) : Int).toNat bt136.1.size))).bind fun t139 => ((impl_Old.f t139 false false false false false false false 0).bind fun bt140 => (if bt140.2 = true then (some false) else (if bt136.2 = true then ((spec_LgPath.f kj4 t133).bind fun t142 => ((laws_lgTold.f kj4 t133 bt136.1 t142).bind fun t143 => (some t143))) else (some true))))) else (none)) else (none)) else (none)) else (none)) else (none)) else (none)) else (none)) else (none)) else (none)))) = some r := H
        have A9 := Aside0.mk A90
        clear A90
        replace H := Option.bind_eq_some_iff.mp H
        obtain ⟨⟨t136, t137⟩, A100, H⟩ := H
        replace H : ((laws_idAt.f a2 16).bind fun t138 => (if 0 ≤ t138 then (if t138 ≤ (t136.size : Int) then (if 0 ≤ (Int.tmod a3 20) then (if (Int.tmod a3 20) ≤ (((Int.tmod a3 20) + 1) % 256) then (if (((Int.tmod a3 20) + 1) % 256) ≤ 20 then (if (t136.extract 0 (t138 : Int).toNat).size + ((⟨#[103, 104, 105, 106, 107, 108, 109, 110, 111, 112, 113, 114, 115, 116, 117, 118, 119, 120, 121, 122]⟩ : ByteArray).extract ((Int.tmod a3 20) : Int).toNat ((((Int.tmod a3 20) + 1) % 256) : Int).toNat).size ≤ 9223372036854775807 then (if 0 ≤ (wrap64 (t138 + 1)) then (if (wrap64 (t138 + 1)) ≤ (t136.size : Int) then (if ((t136.extract 0 (t138 : Int).toNat) ++ ((⟨#[103, 104, 105, 106, 107, 108, 109, 110, 111, 112, 113, 114, 115, 116, 117, 118, 119, 120, 121, 122]⟩ : ByteArray).extract ((Int.tmod a3 20) : Int).toNat ((((Int.tmod a3 20) + 1) % 256) : Int).toNat)).size + (t136.extract ((wrap64 (t138 + 1)) : Int).toNat t136.size).size ≤ 9223372036854775807 then ((spec_LgSymbol.f kj4 t133 (((t136.extract 0 (t138 : Int).toNat) ++ ((⟨#[103, 104, 105, 106, 107, 108, 109, 110, 111, 112, 113, 114, 115, 116, 117, 118, 119, 120, 121, 122]⟩ : ByteArray).extract ((Int.tmod a3 20) : Int).toNat ((((Int.tmod a3 20) + 1) % 256) : Int).toNat)) ++ (t136.extract ((wrap64 (t138 + 1)) : Int).toNat t136.size))).bind fun t139 => ((impl_Old.f t139 false false false false false false false 0).bind fun bt140 => (if bt140.2 = true then (some false) else (if t137 = true then ((spec_LgPath.f kj4 t133).bind fun t142 => ((laws_lgTold.f kj4 t133 t136 t142).bind fun t143 => (some t143))) else (some true))))) else (none)) else (none)) else (none)) else (none)) else (none)) else (none)) else (none)) else (none)) else (none))) = some r := H
        have A10 := Aside0.mk A100
        clear A100
        replace H := Option.bind_eq_some_iff.mp H
        obtain ⟨t138, A110, H⟩ := H
        replace H : (if 0 ≤ t138 then (if t138 ≤ (t136.size : Int) then (if 0 ≤ (Int.tmod a3 20) then (if (Int.tmod a3 20) ≤ (((Int.tmod a3 20) + 1) % 256) then (if (((Int.tmod a3 20) + 1) % 256) ≤ 20 then (if (t136.extract 0 (t138 : Int).toNat).size + ((⟨#[103, 104, 105, 106, 107, 108, 109, 110, 111, 112, 113, 114, 115, 116, 117, 118, 119, 120, 121, 122]⟩ : ByteArray).extract ((Int.tmod a3 20) : Int).toNat ((((Int.tmod a3 20) + 1) % 256) : Int).toNat).size ≤ 9223372036854775807 then (if 0 ≤ (wrap64 (t138 + 1)) then (if (wrap64 (t138 + 1)) ≤ (t136.size : Int) then (if ((t136.extract 0 (t138 : Int).toNat) ++ ((⟨#[103, 104, 105, 106, 107, 108, 109, 110, 111, 112, 113, 114, 115, 116, 117, 118, 119, 120, 121, 122]⟩ : ByteArray).extract ((Int.tmod a3 20) : Int).toNat ((((Int.tmod a3 20) + 1) % 256) : Int).toNat)).size + (t136.extract ((wrap64 (t138 + 1)) : Int).toNat t136.size).size ≤ 9223372036854775807 then ((spec_LgSymbol.f kj4 t133 (((t136.extract 0 (t138 : Int).toNat) ++ ((⟨#[103, 104, 105, 106, 107, 108, 109, 110, 111, 112, 113, 114, 115, 116, 117, 118, 119, 120, 121, 122]⟩ : ByteArray).extract ((Int.tmod a3 20) : Int).toNat ((((Int.tmod a3 20) + 1) % 256) : Int).toNat)) ++ (t136.extract ((wrap64 (t138 + 1)) : Int).toNat t136.size))).bind fun t139 => ((impl_Old.f t139 false false false false false false false 0).bind fun bt140 => (if bt140.2 = true then (some false) else (if t137 = true then ((spec_LgPath.f kj4 t133).bind fun t142 => ((laws_lgTold.f kj4 t133 t136 t142).bind fun t143 => (some t143))) else (some true))))) else (none)) else (none)) else (none)) else (none)) else (none)) else (none)) else (none)) else (none)) else (none)) = some r := H
        have A11 := Aside0.mk A110
        clear A110
        by_cases c12 : 0 ≤ t138
        · rw [if_pos c12] at H
          have c12b0 := eq_true c12
          have c12b1 : decide (0 ≤ t138) = true := decide_eq_true c12
          clear c12
          by_cases c13 : t138 ≤ (t136.size : Int)
          · rw [if_pos c13] at H
            have c13b0 := eq_true c13
            have c13b1 : decide (t138 ≤ (t136.size : Int)) = true := decide_eq_true c13
            clear c13
            obtain ⟨ji14, hji14⟩ : ∃ j_ : Int, (Int.tmod a3 20) = j_ := ⟨_, rfl⟩
            replace H : (if 0 ≤ (ji14) then (if (ji14) ≤ (((ji14) + 1) % 256) then (if (((ji14) + 1) % 256) ≤ 20 then (if (t136.extract 0 (t138 : Int).toNat).size + ((⟨#[103, 104, 105, 106, 107, 108, 109, 110, 111, 112, 113, 114, 115, 116, 117, 118, 119, 120, 121, 122]⟩ : ByteArray).extract ((ji14) : Int).toNat ((((ji14) + 1) % 256) : Int).toNat).size ≤ 9223372036854775807 then (if 0 ≤ (wrap64 (t138 + 1)) then (if (wrap64 (t138 + 1)) ≤ (t136.size : Int) then (if ((t136.extract 0 (t138 : Int).toNat) ++ ((⟨#[103, 104, 105, 106, 107, 108, 109, 110, 111, 112, 113, 114, 115, 116, 117, 118, 119, 120, 121, 122]⟩ : ByteArray).extract ((ji14) : Int).toNat ((((ji14) + 1) % 256) : Int).toNat)).size + (t136.extract ((wrap64 (t138 + 1)) : Int).toNat t136.size).size ≤ 9223372036854775807 then ((spec_LgSymbol.f kj4 t133 (((t136.extract 0 (t138 : Int).toNat) ++ ((⟨#[103, 104, 105, 106, 107, 108, 109, 110, 111, 112, 113, 114, 115, 116, 117, 118, 119, 120, 121, 122]⟩ : ByteArray).extract ((ji14) : Int).toNat ((((ji14) + 1) % 256) : Int).toNat)) ++ (t136.extract ((wrap64 (t138 + 1)) : Int).toNat t136.size))).bind fun t139 => ((impl_Old.f t139 false false false false false false false 0).bind fun bt140 => (if bt140.2 = true then (some false) else (if t137 = true then ((spec_LgPath.f kj4 t133).bind fun t142 => ((laws_lgTold.f kj4 t133 t136 t142).bind fun t143 => (some t143))) else (some true))))) else (none)) else (none)) else (none)) else (none)) else (none)) else (none)) else (none)) = some r := by first | (rw [hji14] at H; exact H) | (simp only [hji14] at H ⊢; exact H)
            (try rw [hji14] at A9)
            (try rw [hji14] at A10)
            (try rw [hji14] at A11)
            by_cases c15 : 0 ≤ (ji14)
            · rw [if_pos c15] at H
              have c15b0 := eq_true c15
              have c15b1 : decide (0 ≤ (ji14)) = true := decide_eq_true c15
              clear c15
              by_cases c16 : (ji14) ≤ (((ji14) + 1) % 256)
              · rw [if_pos c16] at H
                have c16b0 := eq_true c16
                have c16b1 : decide ((ji14) ≤ (((ji14) + 1) % 256)) = true := decide_eq_true c16
                by_cases c17 : (((ji14) + 1) % 256) ≤ 20
                · rw [if_pos c17] at H
                  have c17b0 := eq_true c17
                  have c17b1 : decide ((((ji14) + 1) % 256) ≤ 20) = true := decide_eq_true c17
                  by_cases c18 : (t136.extract 0 (t138 : Int).toNat).size + ((⟨#[103, 104, 105, 106, 107, 108, 109, 110, 111, 112, 113, 114, 115, 116, 117, 118, 119, 120, 121, 122]⟩ : ByteArray).extract ((ji14) : Int).toNat ((((ji14) + 1) % 256) : Int).toNat).size ≤ 9223372036854775807
                  · rw [if_pos c18] at H
                    have c18b0 := eq_true c18
                    have c18b1 : decide ((t136.extract 0 (t138 : Int).toNat).size + ((⟨#[103, 104, 105, 106, 107, 108, 109, 110, 111, 112, 113, 114, 115, 116, 117, 118, 119, 120, 121, 122]⟩ : ByteArray).extract ((ji14) : Int).toNat ((((ji14) + 1) % 256) : Int).toNat).size ≤ 9223372036854775807) = true := decide_eq_true c18
                    try have c18b2 : (9223372036854775807 < (t136.extract 0 (t138 : Int).toNat).size + ((⟨#[103, 104, 105, 106, 107, 108, 109, 110, 111, 112, 113, 114, 115, 116, 117, 118, 119, 120, 121, 122]⟩ : ByteArray).extract ((ji14) : Int).toNat ((((ji14) + 1) % 256) : Int).toNat).size) = False := eq_false (Nat.not_lt.2 c18)
                    try (have c18q := c18; rw [ByteArray.size_extract, Nat.min_eq_left (by show _ ≤ Array.size _; simp only [List.size_toArray, List.length_cons, List.length_nil]; omega)] at c18q; have c18b3 := eq_false (Nat.not_lt.2 c18q); clear c18q)
                    obtain ⟨ji19, hji19⟩ : ∃ j_ : Int, (wrap64 (t138 + 1)) = j_ := ⟨_, rfl⟩
                    replace H : (if 0 ≤ (ji19) then (if (ji19) ≤ (t136.size : Int) then (if ((t136.extract 0 (t138 : Int).toNat) ++ ((⟨#[103, 104, 105, 106, 107, 108, 109, 110, 111, 112, 113, 114, 115, 116, 117, 118, 119, 120, 121, 122]⟩ : ByteArray).extract ((ji14) : Int).toNat ((((ji14) + 1) % 256) : Int).toNat)).size + (t136.extract ((ji19) : Int).toNat t136.size).size ≤ 9223372036854775807 then ((spec_LgSymbol.f kj4 t133 (((t136.extract 0 (t138 : Int).toNat) ++ ((⟨#[103, 104, 105, 106, 107, 108, 109, 110, 111, 112, 113, 114, 115, 116, 117, 118, 119, 120, 121, 122]⟩ : ByteArray).extract ((ji14) : Int).toNat ((((ji14) + 1) % 256) : Int).toNat)) ++ (t136.extract ((ji19) : Int).toNat t136.size))).bind fun t139 => ((impl_Old.f t139 false false false false false false false 0).bind fun bt140 => (if bt140.2 = true then (some false) else (if t137 = true then ((spec_LgPath.f kj4 t133).bind fun t142 => ((laws_lgTold.f kj4 t133 t136 t142).bind fun t143 => (some t143))) else (some true))))) else (none)) else (none)) else (none)) = some r := by first | (rw [hji19] at H; exact H) | (simp only [hji19] at H ⊢; exact H)
                    (try rw [hji19] at A9)
                    (try rw [hji19] at A10)
                    (try rw [hji19] at A11)
                    have hji19w : (IntKind.i64.wrap (t138 + 1)) = ji19 := (i64_w _).trans hji19
                    by_cases c20 : 0 ≤ (ji19)
                    · rw [if_pos c20] at H
                      have c20b0 := eq_true c20
                      have c20b1 : decide (0 ≤ (ji19)) = true := decide_eq_true c20
                      clear c20
                      by_cases c21 : (ji19) ≤ (t136.size : Int)
                      · rw [if_pos c21] at H
                        have c21b0 := eq_true c21
                        have c21b1 : decide ((ji19) ≤ (t136.size : Int)) = true := decide_eq_true c21
                        clear c21
                        by_cases c22 : ((t136.extract 0 (t138 : Int).toNat) ++ ((⟨#[103, 104, 105, 106, 107, 108, 109, 110, 111, 112, 113, 114, 115, 116, 117, 118, 119, 120, 121, 122]⟩ : ByteArray).extract ((ji14) : Int).toNat ((((ji14) + 1) % 256) : Int).toNat)).size + (t136.extract ((ji19) : Int).toNat t136.size).size ≤ 9223372036854775807
                        · rw [if_pos c22] at H
                          have c22b0 := eq_true c22
                          have c22b1 : decide (((t136.extract 0 (t138 : Int).toNat) ++ ((⟨#[103, 104, 105, 106, 107, 108, 109, 110, 111, 112, 113, 114, 115, 116, 117, 118, 119, 120, 121, 122]⟩ : ByteArray).extract ((ji14) : Int).toNat ((((ji14) + 1) % 256) : Int).toNat)).size + (t136.extract ((ji19) : Int).toNat t136.size).size ≤ 9223372036854775807) = true := decide_eq_true c22
                          try have c22b2 : (9223372036854775807 < ((t136.extract 0 (t138 : Int).toNat) ++ ((⟨#[103, 104, 105, 106, 107, 108, 109, 110, 111, 112, 113, 114, 115, 116, 117, 118, 119, 120, 121, 122]⟩ : ByteArray).extract ((ji14) : Int).toNat ((((ji14) + 1) % 256) : Int).toNat)).size + (t136.extract ((ji19) : Int).toNat t136.size).size) = False := eq_false (Nat.not_lt.2 c22)
                          try have c22b4 : (9223372036854775807 < (t136.extract 0 (t138 : Int).toNat).size + (((⟨#[103, 104, 105, 106, 107, 108, 109, 110, 111, 112, 113, 114, 115, 116, 117, 118, 119, 120, 121, 122]⟩ : ByteArray).extract ((ji14) : Int).toNat ((((ji14) + 1) % 256) : Int).toNat).size) + (t136.extract ((ji19) : Int).toNat t136.size).size) = False := eq_false (by have h_ := c22; (repeat rw [ByteArray.size_append] at h_); exact Nat.not_lt.2 h_)
                          try (have c22q := c22; rw [ByteArray.size_extract, Nat.min_eq_left (by show _ ≤ Array.size _; simp only [List.size_toArray, List.length_cons, List.length_nil]; omega)] at c22q; have c22b3 := eq_false (Nat.not_lt.2 c22q); clear c22q)
                          replace H := Option.bind_eq_some_iff.mp H
                          obtain ⟨t139, A230, H⟩ := H
                          replace H : ((impl_Old.f t139 false false false false false false false 0).bind fun bt140 => (if bt140.2 = true then (some false) else (if t137 = true then ((spec_LgPath.f kj4 t133).bind fun t142 => ((laws_lgTold.f kj4 t133 t136 t142).bind fun t143 => (some t143))) else (some true)))) = some r := H
                          have A23 := Aside0.mk A230
                          clear A230
                          replace H := Option.bind_eq_some_iff.mp H
                          obtain ⟨⟨t140, t141⟩, A240, H⟩ := H
                          replace H : (if t141 = true then (some false) else (if t137 = true then ((spec_LgPath.f kj4 t133).bind fun t142 => ((laws_lgTold.f kj4 t133 t136 t142).bind fun t143 => (some t143))) else (some true))) = some r := H
                          have A24 := Aside0.mk A240
                          clear A240
                          by_cases c25 : t141 = true
                          · subst c25
                            have H1 : (some false) = some r := by rw [if_pos rfl] at H; exact H
                            clear H
                            have H := H1
                            clear H1
                            obtain rfl := Option.some.inj H
                            go_wp2_with (first | (go_at_call 32; refine (idCut_at _ _ _ _ _ _ (by assumption) (by assumption)).mono ?_; rintro e w_ ⟨rfl, rfl⟩) | (go_at_call 36; (with_reducible refine (laws_lgWords.calls kj4 _ _ l0 t133 _ ?side1 ?side2 A9.out).mono ?_); (case side1 => repeat (first | exact (Kd.C_below HR0.out HB.out) | (with_reducible refine Kd.C_alloc ?_ _) | (with_reducible refine Kd.C_drewN ?_ _) | (with_reducible refine Kd.C_drew ?_))); (case side2 => exact HC0.out); rintro e w26 ⟨v134, rfl, ho0, hb⟩; have n0_ := Aside0.mk (Kd.R_lower ho0 (below_size (by repeat (first | (with_reducible first | exact HB.out | apply below_alloc | apply pw_below_drewN | apply below_drew1) | exact HB.out)))); have n1_ := Aside0.mk (below_step (by repeat (first | (with_reducible first | exact HB.out | apply below_alloc | apply pw_below_drewN | apply below_drew1) | exact HB.out)) hb); clear HB; have HO135 := n0_; have HB := n1_; clear n0_ n1_; (try clear hb); (try clear hb2); (try clear hk); (try clear hi); (try clear ho0)) | (go_at_call 28; (with_reducible refine (laws_lgHash.calls _ _ l1 t136 t137 _ ?side1 ?side2 A10.out).mono ?_); (case side1 => repeat (first | exact (Kd.C_below HR1.out HB.out) | (with_reducible refine Kd.C_alloc ?_ _) | (with_reducible refine Kd.C_drewN ?_ _) | (with_reducible refine Kd.C_drew ?_))); (case side2 => exact HC1.out); rintro e w27 ⟨rfl, hb⟩; have n0_ := Aside0.mk (Kd.R_below (by (with_reducible repeat (first | apply Kd.R_alloc | apply Kd.R_drewN | apply Kd.R_drew)); exact HO135.out) hb); have n1_ := Aside0.mk (below_step (by repeat (first | (with_reducible first | exact HB.out | apply below_alloc | apply pw_below_drewN | apply below_drew1) | exact HB.out)) hb); clear HO135; clear HB; have HO135 := n0_; have HB := n1_; clear n0_ n1_; (try clear hb); (try clear hb2); (try clear hk); (try clear hi)) | (go_at_call 34; (with_reducible refine (laws_idAt.calls a2 16 t138 _ A11.out).mono ?_); rintro e w' ⟨rfl, ⟨nd, rfl⟩⟩; (try first | exact ⟨rfl, _, World.drewN_drewN _ _ _⟩ | exact ⟨rfl, _, Eq.trans (World.drewN_drewN _ _ _) (congrArg (World.drewN _) (Nat.add_assoc _ _ _))⟩); obtain ⟨Ao28, co28, eo28⟩ := Kd.R_slice HO135.out; subst eo28) | (go_at_call 38; (with_reducible refine (spec_LgSymbol.calls kj4 _ _ t133 (((t136.extract 0 (t138 : Int).toNat) ++ ((⟨#[103, 104, 105, 106, 107, 108, 109, 110, 111, 112, 113, 114, 115, 116, 117, 118, 119, 120, 121, 122]⟩ : ByteArray).extract ((ji14) : Int).toNat ((((ji14) + 1) % 256) : Int).toNat)) ++ (t136.extract ((ji19) : Int).toNat t136.size)) t139 _ ?side1 ?side2 (show StrIs _ from ?side3) A23.out).mono ?_); (case side1 => repeat (first | exact (Kd.R_reads' HO135.out).2.2 | (with_reducible refine Kd.C_alloc ?_ _) | (with_reducible refine Kd.C_drewN ?_ _) | (with_reducible refine Kd.C_drew ?_))); (case side2 => exact (Kd.R_reads' HO135.out).2.1); (case side3 => exact Stays.below hT_ (by first | (repeat (first | (with_reducible first | exact HB.out | apply below_alloc | apply pw_below_drewN | apply below_drew1) | exact HB.out)) | (repeat (first | exact Below.refl _ _ | apply below_drew1 | apply pw_below_drewN)))); rintro e w29 ⟨rfl, hb⟩; have n0_ := Aside0.mk (Kd.R_below (by (with_reducible repeat (first | apply Kd.R_alloc | apply Kd.R_drewN | apply Kd.R_drew)); exact HO135.out) hb); have n1_ := Aside0.mk (below_step (by repeat (first | (with_reducible first | exact HB.out | apply below_alloc | apply pw_below_drewN | apply below_drew1) | exact HB.out)) hb); clear HO135; clear HB; have HO135 := n0_; have HB := n1_; clear n0_ n1_; (try clear hb); (try clear hb2); (try clear hk); (try clear hi)) | (go_at_call 37; (with_reducible refine (impl_Old.calls t139 false false false false false false false 0 t140 true _ A24.out).mono ?_); rintro e w30 ⟨rfl, hb⟩; have n0_ := Aside0.mk (Kd.R_below (by (with_reducible repeat (first | apply Kd.R_alloc | apply Kd.R_drewN | apply Kd.R_drew)); exact HO135.out) hb); have n1_ := Aside0.mk (below_step (by repeat (first | (with_reducible first | exact HB.out | apply below_alloc | apply pw_below_drewN | apply below_drew1) | exact HB.out)) hb); clear HO135; clear HB; have HO135 := n0_; have HB := n1_; clear n0_ n1_; (try clear hb); (try clear hb2); (try clear hk); (try clear hi)))
                            repeat (go_quiet (first | (go_at_call 36; (with_reducible refine (laws_lgWords.calls kj4 _ _ l0 t133 _ ?side1 ?side2 A9.out).mono ?_); (case side1 => repeat (first | exact (Kd.C_below HR0.out HB.out) | (with_reducible refine Kd.C_alloc ?_ _) | (with_reducible refine Kd.C_drewN ?_ _) | (with_reducible refine Kd.C_drew ?_))); (case side2 => exact HC0.out); rintro e w26 ⟨v134, rfl, ho0, hb⟩; have n0_ := Aside0.mk (Kd.R_lower ho0 (below_size (by repeat (first | (with_reducible first | exact HB.out | apply below_alloc | apply pw_below_drewN | apply below_drew1) | exact HB.out)))); have n1_ := Aside0.mk (below_step (by repeat (first | (with_reducible first | exact HB.out | apply below_alloc | apply pw_below_drewN | apply below_drew1) | exact HB.out)) hb); clear HB; have HO135 := n0_; have HB := n1_; clear n0_ n1_; (try clear hb); (try clear hb2); (try clear hk); (try clear hi); (try clear ho0)) | (go_at_call 28; (with_reducible refine (laws_lgHash.calls _ _ l1 t136 t137 _ ?side1 ?side2 A10.out).mono ?_); (case side1 => repeat (first | exact (Kd.C_below HR1.out HB.out) | (with_reducible refine Kd.C_alloc ?_ _) | (with_reducible refine Kd.C_drewN ?_ _) | (with_reducible refine Kd.C_drew ?_))); (case side2 => exact HC1.out); rintro e w27 ⟨rfl, hb⟩; have n0_ := Aside0.mk (Kd.R_below (by (with_reducible repeat (first | apply Kd.R_alloc | apply Kd.R_drewN | apply Kd.R_drew)); exact HO135.out) hb); have n1_ := Aside0.mk (below_step (by repeat (first | (with_reducible first | exact HB.out | apply below_alloc | apply pw_below_drewN | apply below_drew1) | exact HB.out)) hb); clear HO135; clear HB; have HO135 := n0_; have HB := n1_; clear n0_ n1_; (try clear hb); (try clear hb2); (try clear hk); (try clear hi)) | (go_at_call 34; (with_reducible refine (laws_idAt.calls a2 16 t138 _ A11.out).mono ?_); rintro e w' ⟨rfl, ⟨nd, rfl⟩⟩; (try first | exact ⟨rfl, _, World.drewN_drewN _ _ _⟩ | exact ⟨rfl, _, Eq.trans (World.drewN_drewN _ _ _) (congrArg (World.drewN _) (Nat.add_assoc _ _ _))⟩); obtain ⟨Ao28, co28, eo28⟩ := Kd.R_slice HO135.out; subst eo28) | (go_at_call 38; (with_reducible refine (spec_LgSymbol.calls kj4 _ _ t133 (((t136.extract 0 (t138 : Int).toNat) ++ ((⟨#[103, 104, 105, 106, 107, 108, 109, 110, 111, 112, 113, 114, 115, 116, 117, 118, 119, 120, 121, 122]⟩ : ByteArray).extract ((ji14) : Int).toNat ((((ji14) + 1) % 256) : Int).toNat)) ++ (t136.extract ((ji19) : Int).toNat t136.size)) t139 _ ?side1 ?side2 (show StrIs _ from ?side3) A23.out).mono ?_); (case side1 => repeat (first | exact (Kd.R_reads' HO135.out).2.2 | (with_reducible refine Kd.C_alloc ?_ _) | (with_reducible refine Kd.C_drewN ?_ _) | (with_reducible refine Kd.C_drew ?_))); (case side2 => exact (Kd.R_reads' HO135.out).2.1); (case side3 => exact Stays.below hT_ (by first | (repeat (first | (with_reducible first | exact HB.out | apply below_alloc | apply pw_below_drewN | apply below_drew1) | exact HB.out)) | (repeat (first | exact Below.refl _ _ | apply below_drew1 | apply pw_below_drewN)))); rintro e w29 ⟨rfl, hb⟩; have n0_ := Aside0.mk (Kd.R_below (by (with_reducible repeat (first | apply Kd.R_alloc | apply Kd.R_drewN | apply Kd.R_drew)); exact HO135.out) hb); have n1_ := Aside0.mk (below_step (by repeat (first | (with_reducible first | exact HB.out | apply below_alloc | apply pw_below_drewN | apply below_drew1) | exact HB.out)) hb); clear HO135; clear HB; have HO135 := n0_; have HB := n1_; clear n0_ n1_; (try clear hb); (try clear hb2); (try clear hk); (try clear hi)) | (go_at_call 37; (with_reducible refine (impl_Old.calls t139 false false false false false false false 0 t140 true _ A24.out).mono ?_); rintro e w30 ⟨rfl, hb⟩; have n0_ := Aside0.mk (Kd.R_below (by (with_reducible repeat (first | apply Kd.R_alloc | apply Kd.R_drewN | apply Kd.R_drew)); exact HO135.out) hb); have n1_ := Aside0.mk (below_step (by repeat (first | (with_reducible first | exact HB.out | apply below_alloc | apply pw_below_drewN | apply below_drew1) | exact HB.out)) hb); clear HO135; clear HB; have HO135 := n0_; have HB := n1_; clear n0_ n1_; (try clear hb); (try clear hb2); (try clear hk); (try clear hi))); try go_wp2_with (first | (go_at_call 32; refine (idCut_at _ _ _ _ _ _ (by assumption) (by assumption)).mono ?_; rintro e w_ ⟨rfl, rfl⟩) | (go_at_call 36; (with_reducible refine (laws_lgWords.calls kj4 _ _ l0 t133 _ ?side1 ?side2 A9.out).mono ?_); (case side1 => repeat (first | exact (Kd.C_below HR0.out HB.out) | (with_reducible refine Kd.C_alloc ?_ _) | (with_reducible refine Kd.C_drewN ?_ _) | (with_reducible refine Kd.C_drew ?_))); (case side2 => exact HC0.out); rintro e w26 ⟨v134, rfl, ho0, hb⟩; have n0_ := Aside0.mk (Kd.R_lower ho0 (below_size (by repeat (first | (with_reducible first | exact HB.out | apply below_alloc | apply pw_below_drewN | apply below_drew1) | exact HB.out)))); have n1_ := Aside0.mk (below_step (by repeat (first | (with_reducible first | exact HB.out | apply below_alloc | apply pw_below_drewN | apply below_drew1) | exact HB.out)) hb); clear HB; have HO135 := n0_; have HB := n1_; clear n0_ n1_; (try clear hb); (try clear hb2); (try clear hk); (try clear hi); (try clear ho0)) | (go_at_call 28; (with_reducible refine (laws_lgHash.calls _ _ l1 t136 t137 _ ?side1 ?side2 A10.out).mono ?_); (case side1 => repeat (first | exact (Kd.C_below HR1.out HB.out) | (with_reducible refine Kd.C_alloc ?_ _) | (with_reducible refine Kd.C_drewN ?_ _) | (with_reducible refine Kd.C_drew ?_))); (case side2 => exact HC1.out); rintro e w27 ⟨rfl, hb⟩; have n0_ := Aside0.mk (Kd.R_below (by (with_reducible repeat (first | apply Kd.R_alloc | apply Kd.R_drewN | apply Kd.R_drew)); exact HO135.out) hb); have n1_ := Aside0.mk (below_step (by repeat (first | (with_reducible first | exact HB.out | apply below_alloc | apply pw_below_drewN | apply below_drew1) | exact HB.out)) hb); clear HO135; clear HB; have HO135 := n0_; have HB := n1_; clear n0_ n1_; (try clear hb); (try clear hb2); (try clear hk); (try clear hi)) | (go_at_call 34; (with_reducible refine (laws_idAt.calls a2 16 t138 _ A11.out).mono ?_); rintro e w' ⟨rfl, ⟨nd, rfl⟩⟩; (try first | exact ⟨rfl, _, World.drewN_drewN _ _ _⟩ | exact ⟨rfl, _, Eq.trans (World.drewN_drewN _ _ _) (congrArg (World.drewN _) (Nat.add_assoc _ _ _))⟩); obtain ⟨Ao28, co28, eo28⟩ := Kd.R_slice HO135.out; subst eo28) | (go_at_call 38; (with_reducible refine (spec_LgSymbol.calls kj4 _ _ t133 (((t136.extract 0 (t138 : Int).toNat) ++ ((⟨#[103, 104, 105, 106, 107, 108, 109, 110, 111, 112, 113, 114, 115, 116, 117, 118, 119, 120, 121, 122]⟩ : ByteArray).extract ((ji14) : Int).toNat ((((ji14) + 1) % 256) : Int).toNat)) ++ (t136.extract ((ji19) : Int).toNat t136.size)) t139 _ ?side1 ?side2 (show StrIs _ from ?side3) A23.out).mono ?_); (case side1 => repeat (first | exact (Kd.R_reads' HO135.out).2.2 | (with_reducible refine Kd.C_alloc ?_ _) | (with_reducible refine Kd.C_drewN ?_ _) | (with_reducible refine Kd.C_drew ?_))); (case side2 => exact (Kd.R_reads' HO135.out).2.1); (case side3 => exact Stays.below hT_ (by first | (repeat (first | (with_reducible first | exact HB.out | apply below_alloc | apply pw_below_drewN | apply below_drew1) | exact HB.out)) | (repeat (first | exact Below.refl _ _ | apply below_drew1 | apply pw_below_drewN)))); rintro e w29 ⟨rfl, hb⟩; have n0_ := Aside0.mk (Kd.R_below (by (with_reducible repeat (first | apply Kd.R_alloc | apply Kd.R_drewN | apply Kd.R_drew)); exact HO135.out) hb); have n1_ := Aside0.mk (below_step (by repeat (first | (with_reducible first | exact HB.out | apply below_alloc | apply pw_below_drewN | apply below_drew1) | exact HB.out)) hb); clear HO135; clear HB; have HO135 := n0_; have HB := n1_; clear n0_ n1_; (try clear hb); (try clear hb2); (try clear hk); (try clear hi)) | (go_at_call 37; (with_reducible refine (impl_Old.calls t139 false false false false false false false 0 t140 true _ A24.out).mono ?_); rintro e w30 ⟨rfl, hb⟩; have n0_ := Aside0.mk (Kd.R_below (by (with_reducible repeat (first | apply Kd.R_alloc | apply Kd.R_drewN | apply Kd.R_drew)); exact HO135.out) hb); have n1_ := Aside0.mk (below_step (by repeat (first | (with_reducible first | exact HB.out | apply below_alloc | apply pw_below_drewN | apply below_drew1) | exact HB.out)) hb); clear HO135; clear HB; have HO135 := n0_; have HB := n1_; clear n0_ n1_; (try clear hb); (try clear hb2); (try clear hk); (try clear hi))))
                            go_ret
                            exact ⟨by first | rfl | (simp [errW_none, errW_some] <;> rfl) | (simp only [← hji14, ← hji19]; first | rfl | (simp [errW_none, errW_some] <;> rfl)) | (simp [*, errW_none, errW_some] <;> rfl), by repeat (first | (with_reducible first | exact HB.out | apply below_alloc | apply pw_below_drewN | apply below_drew1) | exact HB.out)⟩
                          · replace c25 := Bool.eq_false_iff.mpr c25
                            subst c25
                            have H1 : (if t137 = true then ((spec_LgPath.f kj4 t133).bind fun t142 => ((laws_lgTold.f kj4 t133 t136 t142).bind fun t143 => (some t143))) else (some true)) = some r := by rw [if_neg (show ¬ (false = true) by decide)] at H; exact H
                            clear H
                            have H := H1
                            clear H1
                            by_cases c31 : t137 = true
                            · subst c31
                              have H1 : ((spec_LgPath.f kj4 t133).bind fun t142 => ((laws_lgTold.f kj4 t133 t136 t142).bind fun t143 => (some t143))) = some r := by rw [if_pos rfl] at H; exact H
                              clear H
                              have H := H1
                              clear H1
                              replace H := Option.bind_eq_some_iff.mp H
                              obtain ⟨t142, A320, H⟩ := H
                              replace H : ((laws_lgTold.f kj4 t133 t136 t142).bind fun t143 => (some t143)) = some r := H
                              have A32 := Aside0.mk A320
                              clear A320
                              replace H := Option.bind_eq_some_iff.mp H
                              obtain ⟨t143, A330, H⟩ := H
                              replace H : (some t143) = some r := H
                              have A33 := Aside0.mk A330
                              clear A330
                              obtain rfl := Option.some.inj H
                              go_wp2_with (first | (go_at_call 32; refine (idCut_at _ _ _ _ _ _ (by assumption) (by assumption)).mono ?_; rintro e w_ ⟨rfl, rfl⟩) | (go_at_call 36; (with_reducible refine (laws_lgWords.calls kj4 _ _ l0 t133 _ ?side1 ?side2 A9.out).mono ?_); (case side1 => repeat (first | exact (Kd.C_below HR0.out HB.out) | (with_reducible refine Kd.C_alloc ?_ _) | (with_reducible refine Kd.C_drewN ?_ _) | (with_reducible refine Kd.C_drew ?_))); (case side2 => exact HC0.out); rintro e w34 ⟨v134, rfl, ho0, hb⟩; have n0_ := Aside0.mk (Kd.R_lower ho0 (below_size (by repeat (first | (with_reducible first | exact HB.out | apply below_alloc | apply pw_below_drewN | apply below_drew1) | exact HB.out)))); have n1_ := Aside0.mk (below_step (by repeat (first | (with_reducible first | exact HB.out | apply below_alloc | apply pw_below_drewN | apply below_drew1) | exact HB.out)) hb); clear HB; have HO135 := n0_; have HB := n1_; clear n0_ n1_; (try clear hb); (try clear hb2); (try clear hk); (try clear hi); (try clear ho0)) | (go_at_call 28; (with_reducible refine (laws_lgHash.calls _ _ l1 t136 true _ ?side1 ?side2 A10.out).mono ?_); (case side1 => repeat (first | exact (Kd.C_below HR1.out HB.out) | (with_reducible refine Kd.C_alloc ?_ _) | (with_reducible refine Kd.C_drewN ?_ _) | (with_reducible refine Kd.C_drew ?_))); (case side2 => exact HC1.out); rintro e w35 ⟨rfl, hb⟩; have n0_ := Aside0.mk (Kd.R_below (by (with_reducible repeat (first | apply Kd.R_alloc | apply Kd.R_drewN | apply Kd.R_drew)); exact HO135.out) hb); have n1_ := Aside0.mk (below_step (by repeat (first | (with_reducible first | exact HB.out | apply below_alloc | apply pw_below_drewN | apply below_drew1) | exact HB.out)) hb); clear HO135; clear HB; have HO135 := n0_; have HB := n1_; clear n0_ n1_; (try clear hb); (try clear hb2); (try clear hk); (try clear hi)) | (go_at_call 34; (with_reducible refine (laws_idAt.calls a2 16 t138 _ A11.out).mono ?_); rintro e w' ⟨rfl, ⟨nd, rfl⟩⟩; (try first | exact ⟨rfl, _, World.drewN_drewN _ _ _⟩ | exact ⟨rfl, _, Eq.trans (World.drewN_drewN _ _ _) (congrArg (World.drewN _) (Nat.add_assoc _ _ _))⟩); obtain ⟨Ao36, co36, eo36⟩ := Kd.R_slice HO135.out; subst eo36) | (go_at_call 38; (with_reducible refine (spec_LgSymbol.calls kj4 _ _ t133 (((t136.extract 0 (t138 : Int).toNat) ++ ((⟨#[103, 104, 105, 106, 107, 108, 109, 110, 111, 112, 113, 114, 115, 116, 117, 118, 119, 120, 121, 122]⟩ : ByteArray).extract ((ji14) : Int).toNat ((((ji14) + 1) % 256) : Int).toNat)) ++ (t136.extract ((ji19) : Int).toNat t136.size)) t139 _ ?side1 ?side2 (show StrIs _ from ?side3) A23.out).mono ?_); (case side1 => repeat (first | exact (Kd.R_reads' HO135.out).2.2 | (with_reducible refine Kd.C_alloc ?_ _) | (with_reducible refine Kd.C_drewN ?_ _) | (with_reducible refine Kd.C_drew ?_))); (case side2 => exact (Kd.R_reads' HO135.out).2.1); (case side3 => exact Stays.below hT_ (by first | (repeat (first | (with_reducible first | exact HB.out | apply below_alloc | apply pw_below_drewN | apply below_drew1) | exact HB.out)) | (repeat (first | exact Below.refl _ _ | apply below_drew1 | apply pw_below_drewN)))); rintro e w37 ⟨rfl, hb⟩; have n0_ := Aside0.mk (Kd.R_below (by (with_reducible repeat (first | apply Kd.R_alloc | apply Kd.R_drewN | apply Kd.R_drew)); exact HO135.out) hb); have n1_ := Aside0.mk (below_step (by repeat (first | (with_reducible first | exact HB.out | apply below_alloc | apply pw_below_drewN | apply below_drew1) | exact HB.out)) hb); clear HO135; clear HB; have HO135 := n0_; have HB := n1_; clear n0_ n1_; (try clear hb); (try clear hb2); (try clear hk); (try clear hi)) | (go_at_call 37; (with_reducible refine (impl_Old.calls t139 false false false false false false false 0 t140 false _ A24.out).mono ?_); rintro e w38 ⟨rfl, hb⟩; have n0_ := Aside0.mk (Kd.R_below (by (with_reducible repeat (first | apply Kd.R_alloc | apply Kd.R_drewN | apply Kd.R_drew)); exact HO135.out) hb); have n1_ := Aside0.mk (below_step (by repeat (first | (with_reducible first | exact HB.out | apply below_alloc | apply pw_below_drewN | apply below_drew1) | exact HB.out)) hb); clear HO135; clear HB; have HO135 := n0_; have HB := n1_; clear n0_ n1_; (try clear hb); (try clear hb2); (try clear hk); (try clear hi)) | (go_at_call 30; (with_reducible refine (spec_LgPath.calls kj4 _ _ t133 t142 _ ?side1 ?side2 A32.out).mono ?_); (case side1 => repeat (first | exact (Kd.R_reads' HO135.out).2.2 | (with_reducible refine Kd.C_alloc ?_ _) | (with_reducible refine Kd.C_drewN ?_ _) | (with_reducible refine Kd.C_drew ?_))); (case side2 => exact (Kd.R_reads' HO135.out).2.1); rintro e w' ⟨rfl, ⟨nd, rfl⟩⟩; (try first | exact ⟨rfl, _, World.drewN_drewN _ _ _⟩ | exact ⟨rfl, _, Eq.trans (World.drewN_drewN _ _ _) (congrArg (World.drewN _) (Nat.add_assoc _ _ _))⟩)) | (go_at_call 29; (with_reducible refine (laws_lgTold.calls kj4 _ _ t133 t136 t142 t143 _ ?side1 ?side2 (show StrIs _ from ?side3) A33.out).mono ?_); (case side1 => repeat (first | exact (Kd.R_reads' HO135.out).2.2 | (with_reducible refine Kd.C_alloc ?_ _) | (with_reducible refine Kd.C_drewN ?_ _) | (with_reducible refine Kd.C_drew ?_))); (case side2 => exact (Kd.R_reads' HO135.out).2.1); (case side3 => exact Stays.below hT_ (by first | (repeat (first | (with_reducible first | exact HB.out | apply below_alloc | apply pw_below_drewN | apply below_drew1) | exact HB.out)) | (repeat (first | exact Below.refl _ _ | apply below_drew1 | apply pw_below_drewN)))); rintro e w39 ⟨rfl, hb⟩; have n0_ := Aside0.mk (Kd.R_below (by (with_reducible repeat (first | apply Kd.R_alloc | apply Kd.R_drewN | apply Kd.R_drew)); exact HO135.out) hb); have n1_ := Aside0.mk (below_step (by repeat (first | (with_reducible first | exact HB.out | apply below_alloc | apply pw_below_drewN | apply below_drew1) | exact HB.out)) hb); clear HO135; clear HB; have HO135 := n0_; have HB := n1_; clear n0_ n1_; (try clear hb); (try clear hb2); (try clear hk); (try clear hi)))
                              repeat (go_quiet (first | (go_at_call 36; (with_reducible refine (laws_lgWords.calls kj4 _ _ l0 t133 _ ?side1 ?side2 A9.out).mono ?_); (case side1 => repeat (first | exact (Kd.C_below HR0.out HB.out) | (with_reducible refine Kd.C_alloc ?_ _) | (with_reducible refine Kd.C_drewN ?_ _) | (with_reducible refine Kd.C_drew ?_))); (case side2 => exact HC0.out); rintro e w34 ⟨v134, rfl, ho0, hb⟩; have n0_ := Aside0.mk (Kd.R_lower ho0 (below_size (by repeat (first | (with_reducible first | exact HB.out | apply below_alloc | apply pw_below_drewN | apply below_drew1) | exact HB.out)))); have n1_ := Aside0.mk (below_step (by repeat (first | (with_reducible first | exact HB.out | apply below_alloc | apply pw_below_drewN | apply below_drew1) | exact HB.out)) hb); clear HB; have HO135 := n0_; have HB := n1_; clear n0_ n1_; (try clear hb); (try clear hb2); (try clear hk); (try clear hi); (try clear ho0)) | (go_at_call 28; (with_reducible refine (laws_lgHash.calls _ _ l1 t136 true _ ?side1 ?side2 A10.out).mono ?_); (case side1 => repeat (first | exact (Kd.C_below HR1.out HB.out) | (with_reducible refine Kd.C_alloc ?_ _) | (with_reducible refine Kd.C_drewN ?_ _) | (with_reducible refine Kd.C_drew ?_))); (case side2 => exact HC1.out); rintro e w35 ⟨rfl, hb⟩; have n0_ := Aside0.mk (Kd.R_below (by (with_reducible repeat (first | apply Kd.R_alloc | apply Kd.R_drewN | apply Kd.R_drew)); exact HO135.out) hb); have n1_ := Aside0.mk (below_step (by repeat (first | (with_reducible first | exact HB.out | apply below_alloc | apply pw_below_drewN | apply below_drew1) | exact HB.out)) hb); clear HO135; clear HB; have HO135 := n0_; have HB := n1_; clear n0_ n1_; (try clear hb); (try clear hb2); (try clear hk); (try clear hi)) | (go_at_call 34; (with_reducible refine (laws_idAt.calls a2 16 t138 _ A11.out).mono ?_); rintro e w' ⟨rfl, ⟨nd, rfl⟩⟩; (try first | exact ⟨rfl, _, World.drewN_drewN _ _ _⟩ | exact ⟨rfl, _, Eq.trans (World.drewN_drewN _ _ _) (congrArg (World.drewN _) (Nat.add_assoc _ _ _))⟩); obtain ⟨Ao36, co36, eo36⟩ := Kd.R_slice HO135.out; subst eo36) | (go_at_call 38; (with_reducible refine (spec_LgSymbol.calls kj4 _ _ t133 (((t136.extract 0 (t138 : Int).toNat) ++ ((⟨#[103, 104, 105, 106, 107, 108, 109, 110, 111, 112, 113, 114, 115, 116, 117, 118, 119, 120, 121, 122]⟩ : ByteArray).extract ((ji14) : Int).toNat ((((ji14) + 1) % 256) : Int).toNat)) ++ (t136.extract ((ji19) : Int).toNat t136.size)) t139 _ ?side1 ?side2 (show StrIs _ from ?side3) A23.out).mono ?_); (case side1 => repeat (first | exact (Kd.R_reads' HO135.out).2.2 | (with_reducible refine Kd.C_alloc ?_ _) | (with_reducible refine Kd.C_drewN ?_ _) | (with_reducible refine Kd.C_drew ?_))); (case side2 => exact (Kd.R_reads' HO135.out).2.1); (case side3 => exact Stays.below hT_ (by first | (repeat (first | (with_reducible first | exact HB.out | apply below_alloc | apply pw_below_drewN | apply below_drew1) | exact HB.out)) | (repeat (first | exact Below.refl _ _ | apply below_drew1 | apply pw_below_drewN)))); rintro e w37 ⟨rfl, hb⟩; have n0_ := Aside0.mk (Kd.R_below (by (with_reducible repeat (first | apply Kd.R_alloc | apply Kd.R_drewN | apply Kd.R_drew)); exact HO135.out) hb); have n1_ := Aside0.mk (below_step (by repeat (first | (with_reducible first | exact HB.out | apply below_alloc | apply pw_below_drewN | apply below_drew1) | exact HB.out)) hb); clear HO135; clear HB; have HO135 := n0_; have HB := n1_; clear n0_ n1_; (try clear hb); (try clear hb2); (try clear hk); (try clear hi)) | (go_at_call 37; (with_reducible refine (impl_Old.calls t139 false false false false false false false 0 t140 false _ A24.out).mono ?_); rintro e w38 ⟨rfl, hb⟩; have n0_ := Aside0.mk (Kd.R_below (by (with_reducible repeat (first | apply Kd.R_alloc | apply Kd.R_drewN | apply Kd.R_drew)); exact HO135.out) hb); have n1_ := Aside0.mk (below_step (by repeat (first | (with_reducible first | exact HB.out | apply below_alloc | apply pw_below_drewN | apply below_drew1) | exact HB.out)) hb); clear HO135; clear HB; have HO135 := n0_; have HB := n1_; clear n0_ n1_; (try clear hb); (try clear hb2); (try clear hk); (try clear hi)) | (go_at_call 30; (with_reducible refine (spec_LgPath.calls kj4 _ _ t133 t142 _ ?side1 ?side2 A32.out).mono ?_); (case side1 => repeat (first | exact (Kd.R_reads' HO135.out).2.2 | (with_reducible refine Kd.C_alloc ?_ _) | (with_reducible refine Kd.C_drewN ?_ _) | (with_reducible refine Kd.C_drew ?_))); (case side2 => exact (Kd.R_reads' HO135.out).2.1); rintro e w' ⟨rfl, ⟨nd, rfl⟩⟩; (try first | exact ⟨rfl, _, World.drewN_drewN _ _ _⟩ | exact ⟨rfl, _, Eq.trans (World.drewN_drewN _ _ _) (congrArg (World.drewN _) (Nat.add_assoc _ _ _))⟩)) | (go_at_call 29; (with_reducible refine (laws_lgTold.calls kj4 _ _ t133 t136 t142 t143 _ ?side1 ?side2 (show StrIs _ from ?side3) A33.out).mono ?_); (case side1 => repeat (first | exact (Kd.R_reads' HO135.out).2.2 | (with_reducible refine Kd.C_alloc ?_ _) | (with_reducible refine Kd.C_drewN ?_ _) | (with_reducible refine Kd.C_drew ?_))); (case side2 => exact (Kd.R_reads' HO135.out).2.1); (case side3 => exact Stays.below hT_ (by first | (repeat (first | (with_reducible first | exact HB.out | apply below_alloc | apply pw_below_drewN | apply below_drew1) | exact HB.out)) | (repeat (first | exact Below.refl _ _ | apply below_drew1 | apply pw_below_drewN)))); rintro e w39 ⟨rfl, hb⟩; have n0_ := Aside0.mk (Kd.R_below (by (with_reducible repeat (first | apply Kd.R_alloc | apply Kd.R_drewN | apply Kd.R_drew)); exact HO135.out) hb); have n1_ := Aside0.mk (below_step (by repeat (first | (with_reducible first | exact HB.out | apply below_alloc | apply pw_below_drewN | apply below_drew1) | exact HB.out)) hb); clear HO135; clear HB; have HO135 := n0_; have HB := n1_; clear n0_ n1_; (try clear hb); (try clear hb2); (try clear hk); (try clear hi))); try go_wp2_with (first | (go_at_call 32; refine (idCut_at _ _ _ _ _ _ (by assumption) (by assumption)).mono ?_; rintro e w_ ⟨rfl, rfl⟩) | (go_at_call 36; (with_reducible refine (laws_lgWords.calls kj4 _ _ l0 t133 _ ?side1 ?side2 A9.out).mono ?_); (case side1 => repeat (first | exact (Kd.C_below HR0.out HB.out) | (with_reducible refine Kd.C_alloc ?_ _) | (with_reducible refine Kd.C_drewN ?_ _) | (with_reducible refine Kd.C_drew ?_))); (case side2 => exact HC0.out); rintro e w34 ⟨v134, rfl, ho0, hb⟩; have n0_ := Aside0.mk (Kd.R_lower ho0 (below_size (by repeat (first | (with_reducible first | exact HB.out | apply below_alloc | apply pw_below_drewN | apply below_drew1) | exact HB.out)))); have n1_ := Aside0.mk (below_step (by repeat (first | (with_reducible first | exact HB.out | apply below_alloc | apply pw_below_drewN | apply below_drew1) | exact HB.out)) hb); clear HB; have HO135 := n0_; have HB := n1_; clear n0_ n1_; (try clear hb); (try clear hb2); (try clear hk); (try clear hi); (try clear ho0)) | (go_at_call 28; (with_reducible refine (laws_lgHash.calls _ _ l1 t136 true _ ?side1 ?side2 A10.out).mono ?_); (case side1 => repeat (first | exact (Kd.C_below HR1.out HB.out) | (with_reducible refine Kd.C_alloc ?_ _) | (with_reducible refine Kd.C_drewN ?_ _) | (with_reducible refine Kd.C_drew ?_))); (case side2 => exact HC1.out); rintro e w35 ⟨rfl, hb⟩; have n0_ := Aside0.mk (Kd.R_below (by (with_reducible repeat (first | apply Kd.R_alloc | apply Kd.R_drewN | apply Kd.R_drew)); exact HO135.out) hb); have n1_ := Aside0.mk (below_step (by repeat (first | (with_reducible first | exact HB.out | apply below_alloc | apply pw_below_drewN | apply below_drew1) | exact HB.out)) hb); clear HO135; clear HB; have HO135 := n0_; have HB := n1_; clear n0_ n1_; (try clear hb); (try clear hb2); (try clear hk); (try clear hi)) | (go_at_call 34; (with_reducible refine (laws_idAt.calls a2 16 t138 _ A11.out).mono ?_); rintro e w' ⟨rfl, ⟨nd, rfl⟩⟩; (try first | exact ⟨rfl, _, World.drewN_drewN _ _ _⟩ | exact ⟨rfl, _, Eq.trans (World.drewN_drewN _ _ _) (congrArg (World.drewN _) (Nat.add_assoc _ _ _))⟩); obtain ⟨Ao36, co36, eo36⟩ := Kd.R_slice HO135.out; subst eo36) | (go_at_call 38; (with_reducible refine (spec_LgSymbol.calls kj4 _ _ t133 (((t136.extract 0 (t138 : Int).toNat) ++ ((⟨#[103, 104, 105, 106, 107, 108, 109, 110, 111, 112, 113, 114, 115, 116, 117, 118, 119, 120, 121, 122]⟩ : ByteArray).extract ((ji14) : Int).toNat ((((ji14) + 1) % 256) : Int).toNat)) ++ (t136.extract ((ji19) : Int).toNat t136.size)) t139 _ ?side1 ?side2 (show StrIs _ from ?side3) A23.out).mono ?_); (case side1 => repeat (first | exact (Kd.R_reads' HO135.out).2.2 | (with_reducible refine Kd.C_alloc ?_ _) | (with_reducible refine Kd.C_drewN ?_ _) | (with_reducible refine Kd.C_drew ?_))); (case side2 => exact (Kd.R_reads' HO135.out).2.1); (case side3 => exact Stays.below hT_ (by first | (repeat (first | (with_reducible first | exact HB.out | apply below_alloc | apply pw_below_drewN | apply below_drew1) | exact HB.out)) | (repeat (first | exact Below.refl _ _ | apply below_drew1 | apply pw_below_drewN)))); rintro e w37 ⟨rfl, hb⟩; have n0_ := Aside0.mk (Kd.R_below (by (with_reducible repeat (first | apply Kd.R_alloc | apply Kd.R_drewN | apply Kd.R_drew)); exact HO135.out) hb); have n1_ := Aside0.mk (below_step (by repeat (first | (with_reducible first | exact HB.out | apply below_alloc | apply pw_below_drewN | apply below_drew1) | exact HB.out)) hb); clear HO135; clear HB; have HO135 := n0_; have HB := n1_; clear n0_ n1_; (try clear hb); (try clear hb2); (try clear hk); (try clear hi)) | (go_at_call 37; (with_reducible refine (impl_Old.calls t139 false false false false false false false 0 t140 false _ A24.out).mono ?_); rintro e w38 ⟨rfl, hb⟩; have n0_ := Aside0.mk (Kd.R_below (by (with_reducible repeat (first | apply Kd.R_alloc | apply Kd.R_drewN | apply Kd.R_drew)); exact HO135.out) hb); have n1_ := Aside0.mk (below_step (by repeat (first | (with_reducible first | exact HB.out | apply below_alloc | apply pw_below_drewN | apply below_drew1) | exact HB.out)) hb); clear HO135; clear HB; have HO135 := n0_; have HB := n1_; clear n0_ n1_; (try clear hb); (try clear hb2); (try clear hk); (try clear hi)) | (go_at_call 30; (with_reducible refine (spec_LgPath.calls kj4 _ _ t133 t142 _ ?side1 ?side2 A32.out).mono ?_); (case side1 => repeat (first | exact (Kd.R_reads' HO135.out).2.2 | (with_reducible refine Kd.C_alloc ?_ _) | (with_reducible refine Kd.C_drewN ?_ _) | (with_reducible refine Kd.C_drew ?_))); (case side2 => exact (Kd.R_reads' HO135.out).2.1); rintro e w' ⟨rfl, ⟨nd, rfl⟩⟩; (try first | exact ⟨rfl, _, World.drewN_drewN _ _ _⟩ | exact ⟨rfl, _, Eq.trans (World.drewN_drewN _ _ _) (congrArg (World.drewN _) (Nat.add_assoc _ _ _))⟩)) | (go_at_call 29; (with_reducible refine (laws_lgTold.calls kj4 _ _ t133 t136 t142 t143 _ ?side1 ?side2 (show StrIs _ from ?side3) A33.out).mono ?_); (case side1 => repeat (first | exact (Kd.R_reads' HO135.out).2.2 | (with_reducible refine Kd.C_alloc ?_ _) | (with_reducible refine Kd.C_drewN ?_ _) | (with_reducible refine Kd.C_drew ?_))); (case side2 => exact (Kd.R_reads' HO135.out).2.1); (case side3 => exact Stays.below hT_ (by first | (repeat (first | (with_reducible first | exact HB.out | apply below_alloc | apply pw_below_drewN | apply below_drew1) | exact HB.out)) | (repeat (first | exact Below.refl _ _ | apply below_drew1 | apply pw_below_drewN)))); rintro e w39 ⟨rfl, hb⟩; have n0_ := Aside0.mk (Kd.R_below (by (with_reducible repeat (first | apply Kd.R_alloc | apply Kd.R_drewN | apply Kd.R_drew)); exact HO135.out) hb); have n1_ := Aside0.mk (below_step (by repeat (first | (with_reducible first | exact HB.out | apply below_alloc | apply pw_below_drewN | apply below_drew1) | exact HB.out)) hb); clear HO135; clear HB; have HO135 := n0_; have HB := n1_; clear n0_ n1_; (try clear hb); (try clear hb2); (try clear hk); (try clear hi))))
                              go_ret
                              exact ⟨by first | rfl | (simp [errW_none, errW_some] <;> rfl) | (simp only [← hji14, ← hji19]; first | rfl | (simp [errW_none, errW_some] <;> rfl)) | (simp [*, errW_none, errW_some] <;> rfl), by repeat (first | (with_reducible first | exact HB.out | apply below_alloc | apply pw_below_drewN | apply below_drew1) | exact HB.out)⟩
                            · replace c31 := Bool.eq_false_iff.mpr c31
                              subst c31
                              have H1 : (some true) = some r := by rw [if_neg (show ¬ (false = true) by decide)] at H; exact H
                              clear H
                              have H := H1
                              clear H1
                              obtain rfl := Option.some.inj H
                              go_wp2_with (first | (go_at_call 32; refine (idCut_at _ _ _ _ _ _ (by assumption) (by assumption)).mono ?_; rintro e w_ ⟨rfl, rfl⟩) | (go_at_call 36; (with_reducible refine (laws_lgWords.calls kj4 _ _ l0 t133 _ ?side1 ?side2 A9.out).mono ?_); (case side1 => repeat (first | exact (Kd.C_below HR0.out HB.out) | (with_reducible refine Kd.C_alloc ?_ _) | (with_reducible refine Kd.C_drewN ?_ _) | (with_reducible refine Kd.C_drew ?_))); (case side2 => exact HC0.out); rintro e w40 ⟨v134, rfl, ho0, hb⟩; have n0_ := Aside0.mk (Kd.R_lower ho0 (below_size (by repeat (first | (with_reducible first | exact HB.out | apply below_alloc | apply pw_below_drewN | apply below_drew1) | exact HB.out)))); have n1_ := Aside0.mk (below_step (by repeat (first | (with_reducible first | exact HB.out | apply below_alloc | apply pw_below_drewN | apply below_drew1) | exact HB.out)) hb); clear HB; have HO135 := n0_; have HB := n1_; clear n0_ n1_; (try clear hb); (try clear hb2); (try clear hk); (try clear hi); (try clear ho0)) | (go_at_call 28; (with_reducible refine (laws_lgHash.calls _ _ l1 t136 false _ ?side1 ?side2 A10.out).mono ?_); (case side1 => repeat (first | exact (Kd.C_below HR1.out HB.out) | (with_reducible refine Kd.C_alloc ?_ _) | (with_reducible refine Kd.C_drewN ?_ _) | (with_reducible refine Kd.C_drew ?_))); (case side2 => exact HC1.out); rintro e w41 ⟨rfl, hb⟩; have n0_ := Aside0.mk (Kd.R_below (by (with_reducible repeat (first | apply Kd.R_alloc | apply Kd.R_drewN | apply Kd.R_drew)); exact HO135.out) hb); have n1_ := Aside0.mk (below_step (by repeat (first | (with_reducible first | exact HB.out | apply below_alloc | apply pw_below_drewN | apply below_drew1) | exact HB.out)) hb); clear HO135; clear HB; have HO135 := n0_; have HB := n1_; clear n0_ n1_; (try clear hb); (try clear hb2); (try clear hk); (try clear hi)) | (go_at_call 34; (with_reducible refine (laws_idAt.calls a2 16 t138 _ A11.out).mono ?_); rintro e w' ⟨rfl, ⟨nd, rfl⟩⟩; (try first | exact ⟨rfl, _, World.drewN_drewN _ _ _⟩ | exact ⟨rfl, _, Eq.trans (World.drewN_drewN _ _ _) (congrArg (World.drewN _) (Nat.add_assoc _ _ _))⟩); obtain ⟨Ao42, co42, eo42⟩ := Kd.R_slice HO135.out; subst eo42) | (go_at_call 38; (with_reducible refine (spec_LgSymbol.calls kj4 _ _ t133 (((t136.extract 0 (t138 : Int).toNat) ++ ((⟨#[103, 104, 105, 106, 107, 108, 109, 110, 111, 112, 113, 114, 115, 116, 117, 118, 119, 120, 121, 122]⟩ : ByteArray).extract ((ji14) : Int).toNat ((((ji14) + 1) % 256) : Int).toNat)) ++ (t136.extract ((ji19) : Int).toNat t136.size)) t139 _ ?side1 ?side2 (show StrIs _ from ?side3) A23.out).mono ?_); (case side1 => repeat (first | exact (Kd.R_reads' HO135.out).2.2 | (with_reducible refine Kd.C_alloc ?_ _) | (with_reducible refine Kd.C_drewN ?_ _) | (with_reducible refine Kd.C_drew ?_))); (case side2 => exact (Kd.R_reads' HO135.out).2.1); (case side3 => exact Stays.below hT_ (by first | (repeat (first | (with_reducible first | exact HB.out | apply below_alloc | apply pw_below_drewN | apply below_drew1) | exact HB.out)) | (repeat (first | exact Below.refl _ _ | apply below_drew1 | apply pw_below_drewN)))); rintro e w43 ⟨rfl, hb⟩; have n0_ := Aside0.mk (Kd.R_below (by (with_reducible repeat (first | apply Kd.R_alloc | apply Kd.R_drewN | apply Kd.R_drew)); exact HO135.out) hb); have n1_ := Aside0.mk (below_step (by repeat (first | (with_reducible first | exact HB.out | apply below_alloc | apply pw_below_drewN | apply below_drew1) | exact HB.out)) hb); clear HO135; clear HB; have HO135 := n0_; have HB := n1_; clear n0_ n1_; (try clear hb); (try clear hb2); (try clear hk); (try clear hi)) | (go_at_call 37; (with_reducible refine (impl_Old.calls t139 false false false false false false false 0 t140 false _ A24.out).mono ?_); rintro e w44 ⟨rfl, hb⟩; have n0_ := Aside0.mk (Kd.R_below (by (with_reducible repeat (first | apply Kd.R_alloc | apply Kd.R_drewN | apply Kd.R_drew)); exact HO135.out) hb); have n1_ := Aside0.mk (below_step (by repeat (first | (with_reducible first | exact HB.out | apply below_alloc | apply pw_below_drewN | apply below_drew1) | exact HB.out)) hb); clear HO135; clear HB; have HO135 := n0_; have HB := n1_; clear n0_ n1_; (try clear hb); (try clear hb2); (try clear hk); (try clear hi)))
                              repeat (go_quiet (first | (go_at_call 36; (with_reducible refine (laws_lgWords.calls kj4 _ _ l0 t133 _ ?side1 ?side2 A9.out).mono ?_); (case side1 => repeat (first | exact (Kd.C_below HR0.out HB.out) | (with_reducible refine Kd.C_alloc ?_ _) | (with_reducible refine Kd.C_drewN ?_ _) | (with_reducible refine Kd.C_drew ?_))); (case side2 => exact HC0.out); rintro e w40 ⟨v134, rfl, ho0, hb⟩; have n0_ := Aside0.mk (Kd.R_lower ho0 (below_size (by repeat (first | (with_reducible first | exact HB.out | apply below_alloc | apply pw_below_drewN | apply below_drew1) | exact HB.out)))); have n1_ := Aside0.mk (below_step (by repeat (first | (with_reducible first | exact HB.out | apply below_alloc | apply pw_below_drewN | apply below_drew1) | exact HB.out)) hb); clear HB; have HO135 := n0_; have HB := n1_; clear n0_ n1_; (try clear hb); (try clear hb2); (try clear hk); (try clear hi); (try clear ho0)) | (go_at_call 28; (with_reducible refine (laws_lgHash.calls _ _ l1 t136 false _ ?side1 ?side2 A10.out).mono ?_); (case side1 => repeat (first | exact (Kd.C_below HR1.out HB.out) | (with_reducible refine Kd.C_alloc ?_ _) | (with_reducible refine Kd.C_drewN ?_ _) | (with_reducible refine Kd.C_drew ?_))); (case side2 => exact HC1.out); rintro e w41 ⟨rfl, hb⟩; have n0_ := Aside0.mk (Kd.R_below (by (with_reducible repeat (first | apply Kd.R_alloc | apply Kd.R_drewN | apply Kd.R_drew)); exact HO135.out) hb); have n1_ := Aside0.mk (below_step (by repeat (first | (with_reducible first | exact HB.out | apply below_alloc | apply pw_below_drewN | apply below_drew1) | exact HB.out)) hb); clear HO135; clear HB; have HO135 := n0_; have HB := n1_; clear n0_ n1_; (try clear hb); (try clear hb2); (try clear hk); (try clear hi)) | (go_at_call 34; (with_reducible refine (laws_idAt.calls a2 16 t138 _ A11.out).mono ?_); rintro e w' ⟨rfl, ⟨nd, rfl⟩⟩; (try first | exact ⟨rfl, _, World.drewN_drewN _ _ _⟩ | exact ⟨rfl, _, Eq.trans (World.drewN_drewN _ _ _) (congrArg (World.drewN _) (Nat.add_assoc _ _ _))⟩); obtain ⟨Ao42, co42, eo42⟩ := Kd.R_slice HO135.out; subst eo42) | (go_at_call 38; (with_reducible refine (spec_LgSymbol.calls kj4 _ _ t133 (((t136.extract 0 (t138 : Int).toNat) ++ ((⟨#[103, 104, 105, 106, 107, 108, 109, 110, 111, 112, 113, 114, 115, 116, 117, 118, 119, 120, 121, 122]⟩ : ByteArray).extract ((ji14) : Int).toNat ((((ji14) + 1) % 256) : Int).toNat)) ++ (t136.extract ((ji19) : Int).toNat t136.size)) t139 _ ?side1 ?side2 (show StrIs _ from ?side3) A23.out).mono ?_); (case side1 => repeat (first | exact (Kd.R_reads' HO135.out).2.2 | (with_reducible refine Kd.C_alloc ?_ _) | (with_reducible refine Kd.C_drewN ?_ _) | (with_reducible refine Kd.C_drew ?_))); (case side2 => exact (Kd.R_reads' HO135.out).2.1); (case side3 => exact Stays.below hT_ (by first | (repeat (first | (with_reducible first | exact HB.out | apply below_alloc | apply pw_below_drewN | apply below_drew1) | exact HB.out)) | (repeat (first | exact Below.refl _ _ | apply below_drew1 | apply pw_below_drewN)))); rintro e w43 ⟨rfl, hb⟩; have n0_ := Aside0.mk (Kd.R_below (by (with_reducible repeat (first | apply Kd.R_alloc | apply Kd.R_drewN | apply Kd.R_drew)); exact HO135.out) hb); have n1_ := Aside0.mk (below_step (by repeat (first | (with_reducible first | exact HB.out | apply below_alloc | apply pw_below_drewN | apply below_drew1) | exact HB.out)) hb); clear HO135; clear HB; have HO135 := n0_; have HB := n1_; clear n0_ n1_; (try clear hb); (try clear hb2); (try clear hk); (try clear hi)) | (go_at_call 37; (with_reducible refine (impl_Old.calls t139 false false false false false false false 0 t140 false _ A24.out).mono ?_); rintro e w44 ⟨rfl, hb⟩; have n0_ := Aside0.mk (Kd.R_below (by (with_reducible repeat (first | apply Kd.R_alloc | apply Kd.R_drewN | apply Kd.R_drew)); exact HO135.out) hb); have n1_ := Aside0.mk (below_step (by repeat (first | (with_reducible first | exact HB.out | apply below_alloc | apply pw_below_drewN | apply below_drew1) | exact HB.out)) hb); clear HO135; clear HB; have HO135 := n0_; have HB := n1_; clear n0_ n1_; (try clear hb); (try clear hb2); (try clear hk); (try clear hi))); try go_wp2_with (first | (go_at_call 32; refine (idCut_at _ _ _ _ _ _ (by assumption) (by assumption)).mono ?_; rintro e w_ ⟨rfl, rfl⟩) | (go_at_call 36; (with_reducible refine (laws_lgWords.calls kj4 _ _ l0 t133 _ ?side1 ?side2 A9.out).mono ?_); (case side1 => repeat (first | exact (Kd.C_below HR0.out HB.out) | (with_reducible refine Kd.C_alloc ?_ _) | (with_reducible refine Kd.C_drewN ?_ _) | (with_reducible refine Kd.C_drew ?_))); (case side2 => exact HC0.out); rintro e w40 ⟨v134, rfl, ho0, hb⟩; have n0_ := Aside0.mk (Kd.R_lower ho0 (below_size (by repeat (first | (with_reducible first | exact HB.out | apply below_alloc | apply pw_below_drewN | apply below_drew1) | exact HB.out)))); have n1_ := Aside0.mk (below_step (by repeat (first | (with_reducible first | exact HB.out | apply below_alloc | apply pw_below_drewN | apply below_drew1) | exact HB.out)) hb); clear HB; have HO135 := n0_; have HB := n1_; clear n0_ n1_; (try clear hb); (try clear hb2); (try clear hk); (try clear hi); (try clear ho0)) | (go_at_call 28; (with_reducible refine (laws_lgHash.calls _ _ l1 t136 false _ ?side1 ?side2 A10.out).mono ?_); (case side1 => repeat (first | exact (Kd.C_below HR1.out HB.out) | (with_reducible refine Kd.C_alloc ?_ _) | (with_reducible refine Kd.C_drewN ?_ _) | (with_reducible refine Kd.C_drew ?_))); (case side2 => exact HC1.out); rintro e w41 ⟨rfl, hb⟩; have n0_ := Aside0.mk (Kd.R_below (by (with_reducible repeat (first | apply Kd.R_alloc | apply Kd.R_drewN | apply Kd.R_drew)); exact HO135.out) hb); have n1_ := Aside0.mk (below_step (by repeat (first | (with_reducible first | exact HB.out | apply below_alloc | apply pw_below_drewN | apply below_drew1) | exact HB.out)) hb); clear HO135; clear HB; have HO135 := n0_; have HB := n1_; clear n0_ n1_; (try clear hb); (try clear hb2); (try clear hk); (try clear hi)) | (go_at_call 34; (with_reducible refine (laws_idAt.calls a2 16 t138 _ A11.out).mono ?_); rintro e w' ⟨rfl, ⟨nd, rfl⟩⟩; (try first | exact ⟨rfl, _, World.drewN_drewN _ _ _⟩ | exact ⟨rfl, _, Eq.trans (World.drewN_drewN _ _ _) (congrArg (World.drewN _) (Nat.add_assoc _ _ _))⟩); obtain ⟨Ao42, co42, eo42⟩ := Kd.R_slice HO135.out; subst eo42) | (go_at_call 38; (with_reducible refine (spec_LgSymbol.calls kj4 _ _ t133 (((t136.extract 0 (t138 : Int).toNat) ++ ((⟨#[103, 104, 105, 106, 107, 108, 109, 110, 111, 112, 113, 114, 115, 116, 117, 118, 119, 120, 121, 122]⟩ : ByteArray).extract ((ji14) : Int).toNat ((((ji14) + 1) % 256) : Int).toNat)) ++ (t136.extract ((ji19) : Int).toNat t136.size)) t139 _ ?side1 ?side2 (show StrIs _ from ?side3) A23.out).mono ?_); (case side1 => repeat (first | exact (Kd.R_reads' HO135.out).2.2 | (with_reducible refine Kd.C_alloc ?_ _) | (with_reducible refine Kd.C_drewN ?_ _) | (with_reducible refine Kd.C_drew ?_))); (case side2 => exact (Kd.R_reads' HO135.out).2.1); (case side3 => exact Stays.below hT_ (by first | (repeat (first | (with_reducible first | exact HB.out | apply below_alloc | apply pw_below_drewN | apply below_drew1) | exact HB.out)) | (repeat (first | exact Below.refl _ _ | apply below_drew1 | apply pw_below_drewN)))); rintro e w43 ⟨rfl, hb⟩; have n0_ := Aside0.mk (Kd.R_below (by (with_reducible repeat (first | apply Kd.R_alloc | apply Kd.R_drewN | apply Kd.R_drew)); exact HO135.out) hb); have n1_ := Aside0.mk (below_step (by repeat (first | (with_reducible first | exact HB.out | apply below_alloc | apply pw_below_drewN | apply below_drew1) | exact HB.out)) hb); clear HO135; clear HB; have HO135 := n0_; have HB := n1_; clear n0_ n1_; (try clear hb); (try clear hb2); (try clear hk); (try clear hi)) | (go_at_call 37; (with_reducible refine (impl_Old.calls t139 false false false false false false false 0 t140 false _ A24.out).mono ?_); rintro e w44 ⟨rfl, hb⟩; have n0_ := Aside0.mk (Kd.R_below (by (with_reducible repeat (first | apply Kd.R_alloc | apply Kd.R_drewN | apply Kd.R_drew)); exact HO135.out) hb); have n1_ := Aside0.mk (below_step (by repeat (first | (with_reducible first | exact HB.out | apply below_alloc | apply pw_below_drewN | apply below_drew1) | exact HB.out)) hb); clear HO135; clear HB; have HO135 := n0_; have HB := n1_; clear n0_ n1_; (try clear hb); (try clear hb2); (try clear hk); (try clear hi))))
                              go_ret
                              exact ⟨by first | rfl | (simp [errW_none, errW_some] <;> rfl) | (simp only [← hji14, ← hji19]; first | rfl | (simp [errW_none, errW_some] <;> rfl)) | (simp [*, errW_none, errW_some] <;> rfl), by repeat (first | (with_reducible first | exact HB.out | apply below_alloc | apply pw_below_drewN | apply below_drew1) | exact HB.out)⟩
                        · rw [if_neg c22] at H
                          exact absurd H (by simp)
                      · rw [if_neg c21] at H
                        exact absurd H (by simp)
                    · rw [if_neg c20] at H
                      exact absurd H (by simp)
                  · rw [if_neg c18] at H
                    exact absurd H (by simp)
                · rw [if_neg c17] at H
                  exact absurd H (by simp)
              · rw [if_neg c16] at H
                exact absurd H (by simp)
            · rw [if_neg c15] at H
              exact absurd H (by simp)
          · rw [if_neg c13] at H
            exact absurd H (by simp)
        · rw [if_neg c12] at H
          exact absurd H (by simp)

/-- THE ONE PURE STATEMENT of laws_FnLegacyNoHash: yours. -/
def laws_FnLegacyNoHash.Pure : Prop := ∀ (l0 : List (List Int)) (l1 : List Int) (a2 : Int) (a3 : Int), l0.length ≤ maxLen → (∀ r ∈ l0, r.length ≤ maxLen ∧ ∀ x ∈ r, (Lit.int .u8 x).wf = true) → l1.length ≤ maxLen → l1.length * 1 ≤ 140737488351232 → (∀ x ∈ l1, (Lit.int .u8 x).wf = true) → (Lit.int .i64 a2).wf = true → (Lit.int .u8 a3).wf = true → ∃ k, laws_FnLegacyNoHash.f k l0 l1 a2 a3 = some true
theorem laws_FnLegacyNoHash.walk (P : laws_FnLegacyNoHash.Pure) (a0 : Option Addr) (cap0 : Nat) (l0 : List (List Int)) (a1 : Option Addr) (len1 cap1 : Nat) (z1 : List Int) (a2 : Int) (a3 : Int) (w : World) (hT_ : StrIs w) (w0 : (Kd.slice 5 (Kd.int .u8)).C w a0 l0.length l0) (x0 : l0.length ≤ maxLen) (y0 : ∀ r ∈ l0, r.length ≤ maxLen ∧ ∀ x ∈ r, (Lit.int .u8 x).wf = true) (c0 : l0.length ≤ cap0) (w1 : (a1 = none ∧ len1 = 0 ∧ cap1 = 0 ∧ z1 = []) ∨ ∃ x, a1 = some x ∧ len1 ≤ cap1 ∧ cap1 ≤ maxLen ∧ z1.length = cap1 ∧ (∀ i, i < z1.length → w.cell? (x.add i) = some (.int .u8 (z1.getD i 0))) ∧ ∀ n ∈ z1, (Lit.int .u8 n).wf = true) (y1 : len1 * 1 ≤ 140737488351232) (w2 : (Lit.int .i64 a2).wf = true) (w3 : (Lit.int .u8 a3).wf = true) :
    Calls Tryd.prog 10 #[.slice a0 l0.length cap0, .slice a1 len1 cap1, .int .i64 a2, .int .u8 a3] w fun e w' => e = .returned (.bool true) ∧ Below w.heap.size w w' := by
  obtain ⟨l1, rfl, hr1, hm1, hw1, hc1⟩ := ReadsInt.ofRowC w1
  obtain ⟨k, h⟩ := P l0 l1 a2 a3 x0 y0 hm1 y1 hw1 w2 w3
  refine (laws_FnLegacyNoHash.calls k _ _ l0 _ _ l1 a2 a3 true w w0 c0 (Kd.C_of_reads (d := (0 : Int)) (h1 := fun _ => rfl) hr1) hc1 hT_ h).mono ?_
  rintro e w' ⟨rfl, hd⟩
  exact ⟨rfl, hd⟩

end Go.Proofs.YtpmlnhddkbgefaaDoor.PFnLegacyNoHash
