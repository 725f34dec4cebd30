/- Written by a program of this session (wip/tools/myprint.py) with the kit's print: contracts of the functions that one statement reaches; functions that are proved by hand are taken as printed. Conditions: none. -/
import Derived.Test.YtfblehpiecialaaDoorPFnIdentifierReadx0
namespace Go.Proofs.YtfblehpiecialaaDoor.PFnIdentifierRead
open Go.RowKit Go.Proofs.YtfblehpiecialaaDoorW.PrintWords Go.Proofs.YtfblehpiecialaaDoorW.PrintLast Go.Proofs.YtfblehpiecialaaDoorW.PrintMore
attribute [local go_sem] max2_int min2_int max_two min_two max_three min_three max_four min_four   -- for this text's walks alone
set_option linter.unusedVariables false
set_option linter.unusedSimpArgs false

/-! ### laws_idAt: function 14 -/
def laws_idAt.f (a0 : Int) (a1 : Int) : Option (Int) := if a1 = 0 then (none) else (some (Int.tmod (wrap64 ((Int.tmod a0 a1) + a1)) a1))
set_option maxHeartbeats 8000000 in
set_option maxRecDepth 100000 in
theorem laws_idAt.calls (a0 : Int) (a1 : Int) (r : Int) (w : World) (h : laws_idAt.f a0 a1 = some r) :
    Calls Tryd.prog 14 #[.int .i64 a0, .int .i64 a1] w fun e w' => e = .returned (.int .i64 r) ∧ Drawn0 w w' := by
  have H : (if a1 = 0 then (none) else (some (Int.tmod (wrap64 ((Int.tmod a0 a1) + a1)) a1))) = some r := h
  clear h
  by_cases c3 : a1 = 0
  · rw [if_pos c3] at H
    exact absurd H (by simp)
  · rw [if_neg c3] at H
    have c3b0 : (a1 == 0) = false := beq_eq_false_iff_ne.mpr c3
    have c3b1 : (a1 != 0) = true := bne_iff_ne.mpr c3
    obtain rfl := Option.some.inj H
    go_enter Tryd.func14, Tryd.ntmps14
    go_wp2
    go_ret
    exact ⟨by first | rfl | (simp; done) | (simp [*]; done), by repeat (first | exact Drawn0.refl _ | apply Drawn0.step)⟩

/-! ### spec_AnPlain: function 17 -/
def spec_AnPlain.l0 : Nat → List Int → List Int → Int → Int → Option (ByteArray)
  | 0, _, _, _, _ => none
  | k + 1, x3, x12, x13, x14 => if x14 < x13 then (if 0 ≤ x14 then (if x14 < (x12.length : Int) then (if 0 ≤ (Int.tmod (wrap64 (rd x12 x14)) 63) then (if (Int.tmod (wrap64 (rd x12 x14)) 63) < 63 then (if x14 < (x3.length : Int) then (spec_AnPlain.l0 k (x3.set (x14 : Int).toNat (bt (⟨#[97, 98, 99, 100, 101, 102, 103, 104, 105, 106, 107, 108, 109, 110, 111, 112, 113, 114, 115, 116, 117, 118, 119, 120, 121, 122, 65, 66, 67, 68, 69, 70, 71, 72, 73, 74, 75, 76, 77, 78, 79, 80, 81, 82, 83, 84, 85, 86, 87, 88, 89, 90, 48, 49, 50, 51, 52, 53, 54, 55, 56, 57, 95]⟩ : ByteArray) (Int.tmod (wrap64 (rd x12 x14)) 63))) x12 x13 (wrap64 (x14 + 1))) else (none)) else (none)) else (none)) else (none)) else (none)) else (some (strOfNums x3))
def spec_AnPlain.f (k : Nat) (l0 : List Int) : Option (ByteArray) := if (l0.length : Int) = 0 then (some (⟨#[97]⟩ : ByteArray)) else (if 0 ≤ (l0.length : Int) then (if ((l0.length : Int) : Int).toNat ≤ 281474976710656 then (spec_AnPlain.l0 k (List.replicate ((l0.length : Int) : Int).toNat 0) l0 (l0.length : Int) 0) else (none)) else (none))
theorem spec_AnPlain.mono_l : ∀ k, (∀ y0 y1 y2 y3, LeO (spec_AnPlain.l0 k y0 y1 y2 y3) (spec_AnPlain.l0 (k + 1) y0 y1 y2 y3))
  | 0 => fun _ _ _ _ r h => by simp [spec_AnPlain.l0] at h
  | k + 1 => by
    have ih0 := spec_AnPlain.mono_l k
    · intro y0 y1 y2 y3
      unfold spec_AnPlain.l0
      repeat' first
      | (with_reducible exact ih0 _ _ _ _)
      | (with_reducible exact LeO.refl _)
      | (with_reducible exact LeO.none _)
      | (with_reducible refine LeO.ite ?_ ?_)
      | (with_reducible refine LeO.bind ?_ (fun _ => ?_))
      | exact ih0 _ _ _ _
      | exact LeO.none _
      | refine LeO.ite ?_ ?_
      | refine LeO.bind ?_ (fun _ => ?_)
theorem spec_AnPlain.mono : ∀ a0 k, LeO (spec_AnPlain.f k a0) (spec_AnPlain.f (k + 1) a0) := by
  intro a0 k
  have ih0 := spec_AnPlain.mono_l k
  unfold spec_AnPlain.f
  repeat' first
      | (with_reducible exact ih0 _ _ _ _)
      | (with_reducible exact LeO.refl _)
      | (with_reducible exact LeO.none _)
      | (with_reducible refine LeO.ite ?_ ?_)
      | (with_reducible refine LeO.bind ?_ (fun _ => ?_))
      | exact ih0 _ _ _ _
      | exact LeO.none _
      | refine LeO.ite ?_ ?_
      | refine LeO.bind ?_ (fun _ => ?_)
set_option maxHeartbeats 8000000 in
set_option maxRecDepth 100000 in
theorem spec_AnPlain.calls (k : Nat) (A0 : Option Addr) (c0 : Nat) (l0 : List Int) (r : ByteArray) (w : World) (hr0 : Kd.C (Kd.int .u8) w A0 l0.length l0) (hc0 : l0.length ≤ c0) (h : spec_AnPlain.f k l0 = some r) :
    Calls Tryd.prog 17 #[.slice A0 l0.length c0] w fun e w' => e = .returned (.string r) ∧ Below w.heap.size w w' := by
  have HR0 := Aside0.mk hr0
  have HC0 := Aside0.mk hc0
  clear hr0 hc0
  have HB := Aside0.mk (Below.refl w.heap.size w)
  have H : (if (l0.length : Int) = 0 then (some (⟨#[97]⟩ : ByteArray)) else (if 0 ≤ (l0.length : Int) then (if ((l0.length : Int) : Int).toNat ≤ 281474976710656 then (spec_AnPlain.l0 k (List.replicate ((l0.length : Int) : Int).toNat 0) l0 (l0.length : Int) 0) else (none)) else (none))) = some r := h
  clear h
  by_cases c2 : (l0.length : Int) = 0
  · rw [if_pos c2] at H
    have c2b0 : ((l0.length : Int) == 0) = true := beq_iff_eq.mpr c2
    have c2b1 : ((l0.length : Int) != 0) = false := bne_eq_false_iff_eq.mpr c2
    clear c2
    obtain rfl := Option.some.inj H
    go_enter Tryd.func17, Tryd.ntmps17
    go_wp2
    go_ret
    exact ⟨by first | rfl | (simp [errW_none, errW_some] <;> rfl) | (simp [*, errW_none, errW_some] <;> rfl), by repeat (first | (with_reducible first | exact HB.out | apply below_alloc | apply pw_below_drewN | apply below_drew1) | exact HB.out)⟩
  · rw [if_neg c2] at H
    have c2b0 : ((l0.length : Int) == 0) = false := beq_eq_false_iff_ne.mpr c2
    have c2b1 : ((l0.length : Int) != 0) = true := bne_iff_ne.mpr c2
    have c2b2 : ¬ (l0 = []) := fun h_ => c2 (by rw [h_]; rfl)
    by_cases c3 : 0 ≤ (l0.length : Int)
    · rw [if_pos c3] at H
      have c3b0 := eq_true c3
      have c3b1 : decide (0 ≤ (l0.length : Int)) = true := decide_eq_true c3
      clear c3
      by_cases c4 : ((l0.length : Int) : Int).toNat ≤ 281474976710656
      · rw [if_pos c4] at H
        have c4b0 := eq_true c4
        have c4b1 : decide (((l0.length : Int) : Int).toNat ≤ 281474976710656) = true := decide_eq_true c4
        clear c4
        obtain ⟨y101, hy101⟩ : ∃ y_ : List Int, y_ = (List.replicate ((l0.length : Int) : Int).toNat 0) := ⟨_, rfl⟩
        replace H : (spec_AnPlain.l0 k y101 l0 (l0.length : Int) 0) = some r := by first | (rw [hy101]; with_reducible exact H) | (have H2_ := (Option.bind_some _ _).symm.trans H; rw [hy101]; with_reducible exact H2_) | (have H2_ := (Option.bind_some _ _).symm.trans H; with_reducible exact H2_) | with_reducible exact H | (rw [hy101]; exact H) | exact H
        have Ny101 := Aside0.mk hy101
        clear hy101
        have H' := Aside0.mk H
        clear H
        go_enter Tryd.func17, Tryd.ntmps17
        go_wp2_with (first | (go_at_call 18; refine (idCut_at _ _ _ _ _ _ (by assumption) (by assumption)).mono ?_; rintro e w_ ⟨rfl, rfl⟩) | ((with_reducible refine gate_dst (N := 11) rfl ?_); refine Kd.R_make (Kd.int .u8) _ 5 rfl (N := 11) rfl 25 _ _ rfl (l0.length : Int) rfl rfl Tryd.underlying25 (.int .u8 0) 1 info5 rfl (by decide) (by omega) 0 (ok := fun _ => True) (okp := fun _ => True) rfl (fun _ hk => hk) trivial (of_decide_eq_true (by first | (with_reducible assumption) | assumption)) (Nat.le_trans (Nat.mul_le_mul_right _ (of_decide_eq_true (by first | (with_reducible assumption) | assumption) : (l0.length : Int).toNat ≤ 281474976710656)) (by omega)) (Below.refl _ _) (Nat.le_refl _) ?_; intro v102 w5 ho6 hb hg_ hnew_; clear hg_ hnew_; (first | rw [← Ny101.out] at ho6 | (simp only [Int.reduceToNat] at ho6; rw [← Ny101.out] at ho6)); have n0_ := Aside0.mk (Kd.R_lower ho6 (below_size (by repeat (first | (with_reducible first | exact HB.out | apply below_alloc | apply pw_below_drewN | apply below_drew1) | exact HB.out)))); have n1_ := Aside0.mk (below_step (by repeat (first | (with_reducible first | exact HB.out | apply below_alloc | apply pw_below_drewN | apply below_drew1) | exact HB.out)) hb); clear HB; have HO103 := n0_; have HB := n1_; clear n0_ n1_; clear hb ho6))
        go_loopg [14] k (fun kq v14 w' => ∃ (x3_1 : List Int) (x14_1 : Int), v14 = .int .i64 x14_1 ∧ Aside0 (spec_AnPlain.l0 kq x3_1 l0 (l0.length : Int) x14_1 = some r) ∧ Aside0 (kq ≤ k) ∧ Aside0 (Kd.R (Kd.int .u8) 5 w' w.heap.size (fun _ => True) v102 x3_1) ∧ Aside0 (Below w.heap.size w w'))
        case atStart => exact ⟨(y101), (0), (by first | rfl | (simp; done) | (simp [*]; done)), H', ⟨Nat.le_refl _⟩, ⟨by (with_reducible repeat (first | apply Kd.R_alloc | apply Kd.R_drewN | apply Kd.R_drew)); exact HO103.out⟩, ⟨by repeat (first | (with_reducible first | exact HB.out | apply below_alloc | apply pw_below_drewN | apply below_drew1) | exact HB.out)⟩⟩
        case round =>
          clear H'
          try clear c1
          try clear c2
          try clear c2b0
          try clear c2b1
          try clear c2b2
          try clear p2
          try clear c3
          try clear c3b0
          try clear c3b1
          try clear c4
          try clear c4b0
          try clear c4b1
          obtain ⟨x3_1, x14_1, rfl, HA, HK1, HO_3, HB⟩ := hrel
          cases gk with
          | zero => exact absurd HA.out (by simp [spec_AnPlain.l0])
          | succ k1 =>
            have H := HA.out
            clear HA
            simp only [spec_AnPlain.l0] at H
            by_cases c7 : x14_1 < (l0.length : Int)
            · rw [if_pos c7] at H
              have c7b0 : decide (x14_1 < (l0.length : Int)) = true := decide_eq_true c7
              clear c7
              by_cases c8 : 0 ≤ x14_1
              · rw [if_pos c8] at H
                have c8b0 : decide (0 ≤ x14_1) = true := decide_eq_true c8
                clear c8
                by_cases c9 : x14_1 < (l0.length : Int)
                · rw [if_pos c9] at H
                  have c9b0 : decide (x14_1 < (l0.length : Int)) = true := decide_eq_true c9
                  clear c9
                  obtain ⟨ji10, hji10⟩ : ∃ j_ : Int, (Int.tmod (wrap64 (rd l0 x14_1)) 63) = j_ := ⟨_, rfl⟩
                  replace H : (if 0 ≤ (ji10) then (if (ji10) < 63 then (if x14_1 < (x3_1.length : Int) then (spec_AnPlain.l0 k1 (x3_1.set (x14_1 : Int).toNat (bt (⟨#[97, 98, 99, 100, 101, 102, 103, 104, 105, 106, 107, 108, 109, 110, 111, 112, 113, 114, 115, 116, 117, 118, 119, 120, 121, 122, 65, 66, 67, 68, 69, 70, 71, 72, 73, 74, 75, 76, 77, 78, 79, 80, 81, 82, 83, 84, 85, 86, 87, 88, 89, 90, 48, 49, 50, 51, 52, 53, 54, 55, 56, 57, 95]⟩ : ByteArray) (ji10))) l0 (l0.length : Int) (wrap64 (x14_1 + 1))) else (none)) else (none)) else (none)) = some r := by first | (rw [hji10] at H; exact H) | (simp only [hji10] at H ⊢; exact H)
                  by_cases c11 : 0 ≤ (ji10)
                  · rw [if_pos c11] at H
                    have c11b0 : decide (0 ≤ (ji10)) = true := decide_eq_true c11
                    clear c11
                    by_cases c12 : (ji10) < 63
                    · rw [if_pos c12] at H
                      have c12b0 : decide ((ji10) < 63) = true := decide_eq_true c12
                      clear c12
                      by_cases c14 : x14_1 < (x3_1.length : Int)
                      · rw [if_pos c14] at H
                        have c14b0 : decide (x14_1 < (x3_1.length : Int)) = true := decide_eq_true c14
                        clear c14
                        obtain ⟨y105, hy105⟩ : ∃ y_ : List Int, y_ = (x3_1.set (x14_1 : Int).toNat (bt (⟨#[97, 98, 99, 100, 101, 102, 103, 104, 105, 106, 107, 108, 109, 110, 111, 112, 113, 114, 115, 116, 117, 118, 119, 120, 121, 122, 65, 66, 67, 68, 69, 70, 71, 72, 73, 74, 75, 76, 77, 78, 79, 80, 81, 82, 83, 84, 85, 86, 87, 88, 89, 90, 48, 49, 50, 51, 52, 53, 54, 55, 56, 57, 95]⟩ : ByteArray) (ji10))) := ⟨_, rfl⟩
                        replace H : (spec_AnPlain.l0 k1 y105 l0 (l0.length : Int) (wrap64 (x14_1 + 1))) = some r := by first | (rw [hy105]; with_reducible exact H) | (have H2_ := (Option.bind_some _ _).symm.trans H; rw [hy105]; with_reducible exact H2_) | (have H2_ := (Option.bind_some _ _).symm.trans H; with_reducible exact H2_) | with_reducible exact H | (rw [hy105]; exact H) | exact H
                        have Ny105 := Aside0.mk hy105
                        clear hy105
                        have H' := Aside0.mk H
                        clear H
                        have p104 : 0 ≤ (x14_1 : Int) := of_decide_eq_true (by first | (with_reducible assumption) | assumption)
                        have q104 : x14_1 < (l0.length : Int) := of_decide_eq_true (by first | (with_reducible assumption) | assumption)
                        obtain ⟨ad104, e104, hx104_0⟩ := Kd.at_int HR0.out x14_1 p104 q104
                        cases e104
                        replace hx104_0 := (HB.out.cell (World.block_lt_of_cell? w _ hx104_0)).trans hx104_0
                        replace p104 := eq_true p104
                        replace q104 := eq_true q104
                        have p13 : 0 ≤ ((ji10) : Int) := of_decide_eq_true (by first | (with_reducible assumption) | assumption)
                        have q13 : (ji10) < (63 : Int) := of_decide_eq_true (by first | (with_reducible assumption) | assumption)
                        have hx13 := bt_at (⟨#[97, 98, 99, 100, 101, 102, 103, 104, 105, 106, 107, 108, 109, 110, 111, 112, 113, 114, 115, 116, 117, 118, 119, 120, 121, 122, 65, 66, 67, 68, 69, 70, 71, 72, 73, 74, 75, 76, 77, 78, 79, 80, 81, 82, 83, 84, 85, 86, 87, 88, 89, 90, 48, 49, 50, 51, 52, 53, 54, 55, 56, 57, 95]⟩ : ByteArray) (ji10)
                        replace p13 := eq_true p13
                        replace q13 := eq_true q13
                        have p15 : 0 ≤ (x14_1 : Int) := of_decide_eq_true (by first | (with_reducible assumption) | assumption)
                        have q15 : (x14_1 : Int) < ((x3_1.length : Int) : Int) := of_decide_eq_true (by first | (with_reducible assumption) | assumption)
                        obtain ⟨go15, co15, eo15, gb15, gl15, cl15, HG15⟩ := Kd.R_form HO_3.out (by omega)
                        (first | cases eo15 | (injection eo15 with ea_ en_ ec_; (first | subst ea_ | (injection ea_ with ea_; subst ea_)); subst ec_; clear en_))
                        have GB15 := Aside0.mk gb15
                        have GG15 := Aside0.mk HG15
                        clear gb15 gl15 HG15
                        obtain ⟨hx15_0, hf15_0⟩ := Kd.R_celln 0 HO_3.out (x14_1 : Int) p15 q15
                        replace p15 := eq_true p15
                        replace q15 := eq_true q15
                        have HP16 := Kd.R_putg HO_3.out (x14_1 : Int) (bt (⟨#[97, 98, 99, 100, 101, 102, 103, 104, 105, 106, 107, 108, 109, 110, 111, 112, 113, 114, 115, 116, 117, 118, 119, 120, 121, 122, 65, 66, 67, 68, 69, 70, 71, 72, 73, 74, 75, 76, 77, 78, 79, 80, 81, 82, 83, 84, 85, 86, 87, 88, 89, 90, 48, 49, 50, 51, 52, 53, 54, 55, 56, 57, 95]⟩ : ByteArray) (ji10))
                        go_wp2_with (first | (go_at_call 18; refine (idCut_at _ _ _ _ _ _ (by assumption) (by assumption)).mono ?_; rintro e w_ ⟨rfl, rfl⟩) | ((with_reducible refine gate_store (t := 5) (p := 25) rfl ?_); refine store_event (t := 5) (p := 25) (v := ?vo_w17) (w1 := (wr.setCell ⟨go15, (x14_1 : Int).toNat, none⟩ (.int .u8 (bt (⟨#[97, 98, 99, 100, 101, 102, 103, 104, 105, 106, 107, 108, 109, 110, 111, 112, 113, 114, 115, 116, 117, 118, 119, 120, 121, 122, 65, 66, 67, 68, 69, 70, 71, 72, 73, 74, 75, 76, 77, 78, 79, 80, 81, 82, 83, 84, 85, 86, 87, 88, 89, 90, 48, 49, 50, 51, 52, 53, 54, 55, 56, 57, 95]⟩ : ByteArray) (ji10))))) ?hg ?ho ?hn ?hr ?_; (case ho => rfl); (case hg => rfl); (case hn => rfl); (case hr => first | (go_simp; done) | (go_simp; rfl)); intro w17 hw; have hg : wr.grownBy w17 (some go15) := (by rw [hw]; exact HP16.2); have hp_ : Kd.R (Kd.int .u8) 5 w17 w.heap.size (fun _ => True) (.slice (some ⟨go15, 0, none⟩) x3_1.length co15) y105 := (by rw [hw, Ny105.out]; exact HP16.1); clear HP16; have n0_ := Aside0.mk (hp_); have n1_ := Aside0.mk ((by rw [hw]; exact below_set (HB.out) GB15.out : Below w.heap.size w w17)); clear HO_3; clear HB; have HO_3 := n0_; have HB := n1_; clear n0_ n1_; clear hg hw hp_))
                        go_roundg k1
                        case measure => have := HK1.out; omega
                        case rel => exact ⟨(y105), (wrap64 (x14_1 + 1)), (by first | rfl | (simp; done) | (simp [*]; done)), H', ⟨by have := HK1.out; omega⟩, ⟨by (with_reducible repeat (first | apply Kd.R_alloc | apply Kd.R_drewN | apply Kd.R_drew)); exact HO_3.out⟩, ⟨by repeat (first | (with_reducible first | exact HB.out | apply below_alloc | apply pw_below_drewN | apply below_drew1) | exact HB.out)⟩⟩
                      · rw [if_neg c14] at H
                        exact absurd H (by simp)
                    · rw [if_neg c12] at H
                      exact absurd H (by simp)
                  · rw [if_neg c11] at H
                    exact absurd H (by simp)
                · rw [if_neg c9] at H
                  exact absurd H (by simp)
              · rw [if_neg c8] at H
                exact absurd H (by simp)
            · rw [if_neg c7] at H
              have c7b0 : decide (x14_1 < (l0.length : Int)) = false := decide_eq_false c7
              clear c7
              obtain rfl := Option.some.inj H
              have hcv18 := own_string (P := Tryd.prog) Tryd.underlying25 Tryd.underlying5 Tryd.underlying9 (Kd.own_of_R HO_3.out)
              go_wp2
              go_ret
              exact ⟨by first | rfl | (simp [errW_none, errW_some] <;> rfl) | (simp [*, errW_none, errW_some] <;> rfl), by repeat (first | (with_reducible first | exact HB.out | apply below_alloc | apply pw_below_drewN | apply below_drew1) | exact HB.out)⟩
      · rw [if_neg c4] at H
        exact absurd H (by simp)
    · rw [if_neg c3] at H
      exact absurd H (by simp)

/-! ### laws_idCut: function 18 -/
def laws_idCut.f (l0 : List Int) : Option (List Int) := if 0 ≤ (mn (l0.length : Int) 1000) then (if (mn (l0.length : Int) 1000) ≤ (l0.length : Int) then (some (l0.take ((mn (l0.length : Int) 1000) : Int).toNat)) else (none)) else (none)
set_option maxHeartbeats 8000000 in
set_option maxRecDepth 100000 in
theorem laws_idCut.calls (P0_ : Nat → Prop) (u9000_ : Value) (l0 : List Int) (r : List Int) (w0 w : World) (hB : Below w0.heap.size w0 w) (ho0 : Kd.R (Kd.int .u8) 5 w w0.heap.size P0_ u9000_ l0) (h : laws_idCut.f l0 = some r) :
    Calls Tryd.prog 18 #[u9000_] w fun e w' => ∃ v0_ : Value, e = .returned (v0_) ∧ Kd.R (Kd.int .u8) 5 w' w0.heap.size (fun k_ => (P0_ k_ ∨ w.heap.size ≤ k_)) v0_ r ∧ Below w0.heap.size w0 w' ∧ Kept w w' (fun k_ => P0_ k_) := by
  have HO0 := Aside0.mk (show Kd.R (Kd.int .u8) 5 w w0.heap.size (fun k_ => (P0_ k_ ∨ w.heap.size ≤ k_)) u9000_ l0 from Kd.R_mono ho0 (fun k_ hk => (.inl hk)))
  have HK := Aside0.mk (Kept.refl w (fun k_ => P0_ k_))
  have HW0 := Aside0.mk hB.size
  have HB := Aside0.mk hB
  clear hB
  have H : (if 0 ≤ (mn (l0.length : Int) 1000) then (if (mn (l0.length : Int) 1000) ≤ (l0.length : Int) then (some (l0.take ((mn (l0.length : Int) 1000) : Int).toNat)) else (none)) else (none)) = some r := h
  clear h
  obtain ⟨ji2, hji2⟩ : ∃ j_ : Int, (mn (l0.length : Int) 1000) = j_ := ⟨_, rfl⟩
  replace H : (if 0 ≤ (ji2) then (if (ji2) ≤ (l0.length : Int) then (some (l0.take ((ji2) : Int).toNat)) else (none)) else (none)) = some r := by first | (rw [hji2] at H; exact H) | (simp only [hji2] at H ⊢; exact H)
  (try (have hji2h : ji2 ≤ 1000 := by (rw [← hji2]; unfold mn; (repeat' split) <;> omega)))
  (try (have hji2g : ji2 ≤ 64 := by omega))
  (try (have hji2l : 0 ≤ ji2 := by (rw [← hji2]; unfold mn; (repeat' split) <;> omega)))
  (try (have hji2m : 0 ≤ ji2 := by omega))
  have hji2_ : (if 1000 < (l0.length : Int) then 1000 else (l0.length : Int)) = ji2 := hji2
  by_cases c3 : 0 ≤ (ji2)
  · rw [if_pos c3] at H
    have c3b0 := eq_true c3
    have c3b1 : decide (0 ≤ (ji2)) = true := decide_eq_true c3
    clear c3
    by_cases c4 : (ji2) ≤ (l0.length : Int)
    · rw [if_pos c4] at H
      have c4b0 := eq_true c4
      have c4b1 : decide ((ji2) ≤ (l0.length : Int)) = true := decide_eq_true c4
      clear c4
      obtain ⟨y106, hy106⟩ : ∃ y_ : List Int, y_ = (l0.take ((ji2) : Int).toNat) := ⟨_, rfl⟩
      replace H : (some y106) = some r := by first | (rw [hy106]; with_reducible exact H) | (have H2_ := (Option.bind_some _ _).symm.trans H; rw [hy106]; with_reducible exact H2_) | (have H2_ := (Option.bind_some _ _).symm.trans H; with_reducible exact H2_) | with_reducible exact H | (rw [hy106]; exact H) | exact H
      have Ny106 := Aside0.mk hy106
      clear hy106
      obtain rfl := Option.some.inj H
      obtain ⟨Ao5, co5, eo5⟩ := Kd.R_slice HO0.out
      subst eo5
      have q6 : ((ji2) : Int) ≤ ((l0.length : Int) : Int) := of_decide_eq_true (by first | (with_reducible assumption) | assumption)
      obtain ⟨i06, hi06, _, hsz6, _⟩ := info_parts info5
      have hcut6 := cut_to (P := Tryd.prog) 25 5 .i64 Tryd.underlying25 hi06 Ao5 l0.length co5 (ji2) (of_decide_eq_true (by first | (with_reducible assumption) | assumption)) q6 (Kd.R_reads' HO0.out).2.1
      have hr6 := Kd.R_take (m := ((ji2) : Int).toNat) HO0.out (by omega)
      have hy6 : y106.length = ((ji2) : Int).toNat := (by rw [Ny106.out, List.length_take]; omega)
      rw [← Ny106.out] at hr6
      rw [← hy6] at hr6 hcut6
      clear hy6 hi06 hsz6 HO0
      have HO108 := Aside0.mk hr6
      clear hr6
      replace q6 := eq_true q6
      go_enter Tryd.func18, Tryd.ntmps18
      go_wp2
      go_ret
      exact ⟨_, by first | rfl | (simp [errW_none, errW_some] <;> rfl) | (simp only [← hji2]; first | rfl | (simp [errW_none, errW_some] <;> rfl)) | (simp [*, errW_none, errW_some] <;> rfl), by (with_reducible repeat (first | apply Kd.R_alloc | apply Kd.R_drewN | apply Kd.R_drew)); exact HO108.out, by repeat (first | (with_reducible first | exact HB.out | apply below_alloc | apply pw_below_drewN | apply below_drew1) | exact HB.out), by repeat (first | (with_reducible first | exact HK.out | apply Kept.alloc | apply Kept.drewN | apply Kept.drew) | exact HK.out)⟩
    · rw [if_neg c4] at H
      exact absurd H (by simp)
  · rw [if_neg c3] at H
    exact absurd H (by simp)

/-! ### laws_doorIdentifier: function 26 -/
def laws_doorIdentifier.f (a0 : ByteArray) (a1 : Int) (a2 : ByteArray) (a3 : ByteArray) : Option (Bool) := (impl_Identifier.f a0).bind fun bt109 => (if bt109.2.2.2 = true then (if bt109.1 = a1 then (if bt109.2.1.toList = a2.toList then (some (bt109.2.2.1.toList == a3.toList)) else (some false)) else (some false)) else (some false))
set_option maxHeartbeats 8000000 in
set_option maxRecDepth 100000 in
theorem laws_doorIdentifier.calls (a0 : ByteArray) (a1 : Int) (a2 : ByteArray) (a3 : ByteArray) (r : Bool) (w : World) (h : laws_doorIdentifier.f a0 a1 a2 a3 = some r) :
    Calls Tryd.prog 26 #[.string a0, .int .i64 a1, .string a2, .string a3] w fun e w' => e = .returned (.bool r) ∧ Below w.heap.size w w' := by
  have HB := Aside0.mk (Below.refl w.heap.size w)
  have H : ((impl_Identifier.f a0).bind fun bt109 => (if bt109.2.2.2 = true then (if bt109.1 = a1 then (if bt109.2.1.toList = a2.toList then (some (bt109.2.2.1.toList == a3.toList)) else (some false)) else (some false)) else (some false))) = some r := h
  clear h
  replace H := Option.bind_eq_some_iff.mp H
  obtain ⟨⟨t109, t110, t111, t112⟩, A50, H⟩ := H
  replace H : (if t112 = true then (if t109 = a1 then (if t110.toList = a2.toList then (some (t111.toList == a3.toList)) else (some false)) else (some false)) else (some false)) = some r := H
  have A5 := Aside0.mk A50
  clear A50
  by_cases c6 : t112 = true
  · subst c6
    have H1 : (if t109 = a1 then (if t110.toList = a2.toList then (some (t111.toList == a3.toList)) else (some false)) else (some false)) = some r := by rw [if_pos rfl] at H; exact H
    clear H
    have H := H1
    clear H1
    by_cases c7 : t109 = a1
    · rw [if_pos c7] at H
      have c7b0 : (t109 == a1) = true := beq_iff_eq.mpr c7
      have c7b1 : (t109 != a1) = false := bne_eq_false_iff_eq.mpr c7
      clear c7
      by_cases c8 : t110.toList = a2.toList
      · rw [if_pos c8] at H
        have c8b0 : (t110.toList == a2.toList) = true := beq_iff_eq.mpr c8
        have c8b1 : (t110.toList != a2.toList) = false := bne_eq_false_iff_eq.mpr c8
        clear c8
        obtain rfl := Option.some.inj H
        go_enter Tryd.func26, Tryd.ntmps26
        go_wp2_with (first | (go_at_call 18; refine (idCut_at _ _ _ _ _ _ (by assumption) (by assumption)).mono ?_; rintro e w_ ⟨rfl, rfl⟩) | ((with_reducible refine gate_callee (f := 25) rfl ?_); refine goesL_ (some 15) rfl rfl Tryd.func25 (by kernel_rfl) rfl #[.string a0] rfl (by (try simp only [List.map_toArray, List.map_cons, List.map_nil]); first | done | rfl | (simp only [List.length_drop, List.length_take]; rfl)) ?_; (with_reducible refine (impl_Identifier.calls a0 t109 t110 t111 true _ A5.out).mono ?_); rintro e w9 ⟨rfl, hb⟩; refine ⟨_, rfl, ?_⟩; have n0_ := Aside0.mk (below_step (by repeat (first | (with_reducible first | exact HB.out | apply below_alloc | apply pw_below_drewN | apply below_drew1) | exact HB.out)) hb); clear HB; have HB := n0_; clear n0_; (try clear hb); (try clear hb2); (try clear hk); (try clear hi)))
        go_ret
        exact ⟨by first | rfl | (simp [errW_none, errW_some] <;> rfl) | (simp [*, errW_none, errW_some] <;> rfl), by repeat (first | (with_reducible first | exact HB.out | apply below_alloc | apply pw_below_drewN | apply below_drew1) | exact HB.out)⟩
      · rw [if_neg c8] at H
        have c8b0 : (t110.toList == a2.toList) = false := beq_eq_false_iff_ne.mpr c8
        have c8b1 : (t110.toList != a2.toList) = true := bne_iff_ne.mpr c8
        obtain rfl := Option.some.inj H
        go_enter Tryd.func26, Tryd.ntmps26
        go_wp2_with (first | (go_at_call 18; refine (idCut_at _ _ _ _ _ _ (by assumption) (by assumption)).mono ?_; rintro e w_ ⟨rfl, rfl⟩) | ((with_reducible refine gate_callee (f := 25) rfl ?_); refine goesL_ (some 15) rfl rfl Tryd.func25 (by kernel_rfl) rfl #[.string a0] rfl (by (try simp only [List.map_toArray, List.map_cons, List.map_nil]); first | done | rfl | (simp only [List.length_drop, List.length_take]; rfl)) ?_; (with_reducible refine (impl_Identifier.calls a0 t109 t110 t111 true _ A5.out).mono ?_); rintro e w10 ⟨rfl, hb⟩; refine ⟨_, rfl, ?_⟩; have n0_ := Aside0.mk (below_step (by repeat (first | (with_reducible first | exact HB.out | apply below_alloc | apply pw_below_drewN | apply below_drew1) | exact HB.out)) hb); clear HB; have HB := n0_; clear n0_; (try clear hb); (try clear hb2); (try clear hk); (try clear hi)))
        go_ret
        exact ⟨by first | rfl | (simp [errW_none, errW_some] <;> rfl) | (simp [*, errW_none, errW_some] <;> rfl), by repeat (first | (with_reducible first | exact HB.out | apply below_alloc | apply pw_below_drewN | apply below_drew1) | exact HB.out)⟩
    · rw [if_neg c7] at H
      have c7b0 : (t109 == a1) = false := beq_eq_false_iff_ne.mpr c7
      have c7b1 : (t109 != a1) = true := bne_iff_ne.mpr c7
      obtain rfl := Option.some.inj H
      go_enter Tryd.func26, Tryd.ntmps26
      go_wp2_with (first | (go_at_call 18; refine (idCut_at _ _ _ _ _ _ (by assumption) (by assumption)).mono ?_; rintro e w_ ⟨rfl, rfl⟩) | ((with_reducible refine gate_callee (f := 25) rfl ?_); refine goesL_ (some 15) rfl rfl Tryd.func25 (by kernel_rfl) rfl #[.string a0] rfl (by (try simp only [List.map_toArray, List.map_cons, List.map_nil]); first | done | rfl | (simp only [List.length_drop, List.length_take]; rfl)) ?_; (with_reducible refine (impl_Identifier.calls a0 t109 t110 t111 true _ A5.out).mono ?_); rintro e w11 ⟨rfl, hb⟩; refine ⟨_, rfl, ?_⟩; have n0_ := Aside0.mk (below_step (by repeat (first | (with_reducible first | exact HB.out | apply below_alloc | apply pw_below_drewN | apply below_drew1) | exact HB.out)) hb); clear HB; have HB := n0_; clear n0_; (try clear hb); (try clear hb2); (try clear hk); (try clear hi)))
      go_ret
      exact ⟨by first | rfl | (simp [errW_none, errW_some] <;> rfl) | (simp [*, errW_none, errW_some] <;> rfl), by repeat (first | (with_reducible first | exact HB.out | apply below_alloc | apply pw_below_drewN | apply below_drew1) | exact HB.out)⟩
  · replace c6 := Bool.eq_false_iff.mpr c6
    subst c6
    have H1 : (some false) = some r := by rw [if_neg (show ¬ (false = true) by decide)] at H; exact H
    clear H
    have H := H1
    clear H1
    obtain rfl := Option.some.inj H
    go_enter Tryd.func26, Tryd.ntmps26
    go_wp2_with (first | (go_at_call 18; refine (idCut_at _ _ _ _ _ _ (by assumption) (by assumption)).mono ?_; rintro e w_ ⟨rfl, rfl⟩) | ((with_reducible refine gate_callee (f := 25) rfl ?_); refine goesL_ (some 15) rfl rfl Tryd.func25 (by kernel_rfl) rfl #[.string a0] rfl (by (try simp only [List.map_toArray, List.map_cons, List.map_nil]); first | done | rfl | (simp only [List.length_drop, List.length_take]; rfl)) ?_; (with_reducible refine (impl_Identifier.calls a0 t109 t110 t111 false _ A5.out).mono ?_); rintro e w12 ⟨rfl, hb⟩; refine ⟨_, rfl, ?_⟩; have n0_ := Aside0.mk (below_step (by repeat (first | (with_reducible first | exact HB.out | apply below_alloc | apply pw_below_drewN | apply below_drew1) | exact HB.out)) hb); clear HB; have HB := n0_; clear n0_; (try clear hb); (try clear hb2); (try clear hk); (try clear hi)))
    go_ret
    exact ⟨by first | rfl | (simp [errW_none, errW_some] <;> rfl) | (simp [*, errW_none, errW_some] <;> rfl), by repeat (first | (with_reducible first | exact HB.out | apply below_alloc | apply pw_below_drewN | apply below_drew1) | exact HB.out)⟩

/-! ### spec_IdBase62: function 40 -/
def spec_IdBase62.l0 : Nat → Int → ByteArray → Option (ByteArray)
  | 0, _, _ => none
  | k + 1, x0, x3 => if x0 > 0 then (if 0 ≤ (Int.tmod x0 62) then (if (Int.tmod x0 62) ≤ (IntKind.u64.wrap ((Int.tmod x0 62) + 1)) then (if (IntKind.u64.wrap ((Int.tmod x0 62) + 1)) ≤ 62 then (if ((⟨#[48, 49, 50, 51, 52, 53, 54, 55, 56, 57, 97, 98, 99, 100, 101, 102, 103, 104, 105, 106, 107, 108, 109, 110, 111, 112, 113, 114, 115, 116, 117, 118, 119, 120, 121, 122, 65, 66, 67, 68, 69, 70, 71, 72, 73, 74, 75, 76, 77, 78, 79, 80, 81, 82, 83, 84, 85, 86, 87, 88, 89, 90]⟩ : ByteArray).extract ((Int.tmod x0 62) : Int).toNat ((IntKind.u64.wrap ((Int.tmod x0 62) + 1)) : Int).toNat).size + x3.size ≤ 9223372036854775807 then (spec_IdBase62.l0 k (IntKind.u64.wrap (Int.tdiv x0 62)) (((⟨#[48, 49, 50, 51, 52, 53, 54, 55, 56, 57, 97, 98, 99, 100, 101, 102, 103, 104, 105, 106, 107, 108, 109, 110, 111, 112, 113, 114, 115, 116, 117, 118, 119, 120, 121, 122, 65, 66, 67, 68, 69, 70, 71, 72, 73, 74, 75, 76, 77, 78, 79, 80, 81, 82, 83, 84, 85, 86, 87, 88, 89, 90]⟩ : ByteArray).extract ((Int.tmod x0 62) : Int).toNat ((IntKind.u64.wrap ((Int.tmod x0 62) + 1)) : Int).toNat) ++ x3)) else (none)) else (none)) else (none)) else (none)) else (some x3)
def spec_IdBase62.f (k : Nat) (a0 : Int) : Option (ByteArray) := if a0 > 0 then (if 0 ≤ (Int.tmod (IntKind.u64.wrap (a0 - 1)) 62) then (if (Int.tmod (IntKind.u64.wrap (a0 - 1)) 62) ≤ (IntKind.u64.wrap ((Int.tmod (IntKind.u64.wrap (a0 - 1)) 62) + 1)) then (if (IntKind.u64.wrap ((Int.tmod (IntKind.u64.wrap (a0 - 1)) 62) + 1)) ≤ 62 then (if ((⟨#[48, 49, 50, 51, 52, 53, 54, 55, 56, 57, 97, 98, 99, 100, 101, 102, 103, 104, 105, 106, 107, 108, 109, 110, 111, 112, 113, 114, 115, 116, 117, 118, 119, 120, 121, 122, 65, 66, 67, 68, 69, 70, 71, 72, 73, 74, 75, 76, 77, 78, 79, 80, 81, 82, 83, 84, 85, 86, 87, 88, 89, 90]⟩ : ByteArray).extract ((Int.tmod (IntKind.u64.wrap (a0 - 1)) 62) : Int).toNat ((IntKind.u64.wrap ((Int.tmod (IntKind.u64.wrap (a0 - 1)) 62) + 1)) : Int).toNat).size + 1 ≤ 9223372036854775807 then (spec_IdBase62.l0 k (IntKind.u64.wrap (Int.tdiv (IntKind.u64.wrap (a0 - 1)) 62)) (((⟨#[48, 49, 50, 51, 52, 53, 54, 55, 56, 57, 97, 98, 99, 100, 101, 102, 103, 104, 105, 106, 107, 108, 109, 110, 111, 112, 113, 114, 115, 116, 117, 118, 119, 120, 121, 122, 65, 66, 67, 68, 69, 70, 71, 72, 73, 74, 75, 76, 77, 78, 79, 80, 81, 82, 83, 84, 85, 86, 87, 88, 89, 90]⟩ : ByteArray).extract ((Int.tmod (IntKind.u64.wrap (a0 - 1)) 62) : Int).toNat ((IntKind.u64.wrap ((Int.tmod (IntKind.u64.wrap (a0 - 1)) 62) + 1)) : Int).toNat) ++ (⟨#[95]⟩ : ByteArray))) else (none)) else (none)) else (none)) else (none)) else (some (⟨#[95]⟩ : ByteArray))
theorem spec_IdBase62.mono_l : ∀ k, (∀ y0 y1, LeO (spec_IdBase62.l0 k y0 y1) (spec_IdBase62.l0 (k + 1) y0 y1))
  | 0 => fun _ _ r h => by simp [spec_IdBase62.l0] at h
  | k + 1 => by
    have ih0 := spec_IdBase62.mono_l k
    · intro y0 y1
      unfold spec_IdBase62.l0
      repeat' first
      | (with_reducible exact ih0 _ _)
      | (with_reducible exact LeO.refl _)
      | (with_reducible exact LeO.none _)
      | (with_reducible refine LeO.ite ?_ ?_)
      | (with_reducible refine LeO.bind ?_ (fun _ => ?_))
      | exact ih0 _ _
      | exact LeO.none _
      | refine LeO.ite ?_ ?_
      | refine LeO.bind ?_ (fun _ => ?_)
theorem spec_IdBase62.mono : ∀ a0 k, LeO (spec_IdBase62.f k a0) (spec_IdBase62.f (k + 1) a0) := by
  intro a0 k
  have ih0 := spec_IdBase62.mono_l k
  unfold spec_IdBase62.f
  repeat' first
      | (with_reducible exact ih0 _ _)
      | (with_reducible exact LeO.refl _)
      | (with_reducible exact LeO.none _)
      | (with_reducible refine LeO.ite ?_ ?_)
      | (with_reducible refine LeO.bind ?_ (fun _ => ?_))
      | exact ih0 _ _
      | exact LeO.none _
      | refine LeO.ite ?_ ?_
      | refine LeO.bind ?_ (fun _ => ?_)
set_option maxHeartbeats 8000000 in
set_option maxRecDepth 100000 in
theorem spec_IdBase62.calls (k : Nat) (a0 : Int) (r : ByteArray) (w : World) (h : spec_IdBase62.f k a0 = some r) :
    Calls Tryd.prog 40 #[.int .u64 a0] w fun e w' => e = .returned (.string r) ∧ Drawn0 w w' := by
  have H : (if a0 > 0 then (if 0 ≤ (Int.tmod (IntKind.u64.wrap (a0 - 1)) 62) then (if (Int.tmod (IntKind.u64.wrap (a0 - 1)) 62) ≤ (IntKind.u64.wrap ((Int.tmod (IntKind.u64.wrap (a0 - 1)) 62) + 1)) then (if (IntKind.u64.wrap ((Int.tmod (IntKind.u64.wrap (a0 - 1)) 62) + 1)) ≤ 62 then (if ((⟨#[48, 49, 50, 51, 52, 53, 54, 55, 56, 57, 97, 98, 99, 100, 101, 102, 103, 104, 105, 106, 107, 108, 109, 110, 111, 112, 113, 114, 115, 116, 117, 118, 119, 120, 121, 122, 65, 66, 67, 68, 69, 70, 71, 72, 73, 74, 75, 76, 77, 78, 79, 80, 81, 82, 83, 84, 85, 86, 87, 88, 89, 90]⟩ : ByteArray).extract ((Int.tmod (IntKind.u64.wrap (a0 - 1)) 62) : Int).toNat ((IntKind.u64.wrap ((Int.tmod (IntKind.u64.wrap (a0 - 1)) 62) + 1)) : Int).toNat).size + 1 ≤ 9223372036854775807 then (spec_IdBase62.l0 k (IntKind.u64.wrap (Int.tdiv (IntKind.u64.wrap (a0 - 1)) 62)) (((⟨#[48, 49, 50, 51, 52, 53, 54, 55, 56, 57, 97, 98, 99, 100, 101, 102, 103, 104, 105, 106, 107, 108, 109, 110, 111, 112, 113, 114, 115, 116, 117, 118, 119, 120, 121, 122, 65, 66, 67, 68, 69, 70, 71, 72, 73, 74, 75, 76, 77, 78, 79, 80, 81, 82, 83, 84, 85, 86, 87, 88, 89, 90]⟩ : ByteArray).extract ((Int.tmod (IntKind.u64.wrap (a0 - 1)) 62) : Int).toNat ((IntKind.u64.wrap ((Int.tmod (IntKind.u64.wrap (a0 - 1)) 62) + 1)) : Int).toNat) ++ (⟨#[95]⟩ : ByteArray))) else (none)) else (none)) else (none)) else (none)) else (some (⟨#[95]⟩ : ByteArray))) = some r := h
  clear h
  by_cases c2 : a0 > 0
  · rw [if_pos c2] at H
    have c2b0 : decide (0 < a0) = true := decide_eq_true c2
    clear c2
    obtain ⟨ji3, hji3⟩ : ∃ j_ : Int, (Int.tmod (IntKind.u64.wrap (a0 - 1)) 62) = j_ := ⟨_, rfl⟩
    replace H : (if 0 ≤ (ji3) then (if (ji3) ≤ (IntKind.u64.wrap ((ji3) + 1)) then (if (IntKind.u64.wrap ((ji3) + 1)) ≤ 62 then (if ((⟨#[48, 49, 50, 51, 52, 53, 54, 55, 56, 57, 97, 98, 99, 100, 101, 102, 103, 104, 105, 106, 107, 108, 109, 110, 111, 112, 113, 114, 115, 116, 117, 118, 119, 120, 121, 122, 65, 66, 67, 68, 69, 70, 71, 72, 73, 74, 75, 76, 77, 78, 79, 80, 81, 82, 83, 84, 85, 86, 87, 88, 89, 90]⟩ : ByteArray).extract ((ji3) : Int).toNat ((IntKind.u64.wrap ((ji3) + 1)) : Int).toNat).size + 1 ≤ 9223372036854775807 then (spec_IdBase62.l0 k (IntKind.u64.wrap (Int.tdiv (IntKind.u64.wrap (a0 - 1)) 62)) (((⟨#[48, 49, 50, 51, 52, 53, 54, 55, 56, 57, 97, 98, 99, 100, 101, 102, 103, 104, 105, 106, 107, 108, 109, 110, 111, 112, 113, 114, 115, 116, 117, 118, 119, 120, 121, 122, 65, 66, 67, 68, 69, 70, 71, 72, 73, 74, 75, 76, 77, 78, 79, 80, 81, 82, 83, 84, 85, 86, 87, 88, 89, 90]⟩ : ByteArray).extract ((ji3) : Int).toNat ((IntKind.u64.wrap ((ji3) + 1)) : Int).toNat) ++ (⟨#[95]⟩ : ByteArray))) else (none)) else (none)) else (none)) else (none)) = some r := by first | (rw [hji3] at H; exact H) | (simp only [hji3] at H ⊢; exact H)
    by_cases c4 : 0 ≤ (ji3)
    · rw [if_pos c4] at H
      have c4b0 := eq_true c4
      have c4b1 : decide (0 ≤ (ji3)) = true := decide_eq_true c4
      clear c4
      by_cases c5 : (ji3) ≤ (IntKind.u64.wrap ((ji3) + 1))
      · rw [if_pos c5] at H
        have c5b0 := eq_true c5
        have c5b1 : decide ((ji3) ≤ (IntKind.u64.wrap ((ji3) + 1))) = true := decide_eq_true c5
        by_cases c6 : (IntKind.u64.wrap ((ji3) + 1)) ≤ 62
        · rw [if_pos c6] at H
          have c6b0 := eq_true c6
          have c6b1 : decide ((IntKind.u64.wrap ((ji3) + 1)) ≤ 62) = true := decide_eq_true c6
          by_cases c7 : ((⟨#[48, 49, 50, 51, 52, 53, 54, 55, 56, 57, 97, 98, 99, 100, 101, 102, 103, 104, 105, 106, 107, 108, 109, 110, 111, 112, 113, 114, 115, 116, 117, 118, 119, 120, 121, 122, 65, 66, 67, 68, 69, 70, 71, 72, 73, 74, 75, 76, 77, 78, 79, 80, 81, 82, 83, 84, 85, 86, 87, 88, 89, 90]⟩ : ByteArray).extract ((ji3) : Int).toNat ((IntKind.u64.wrap ((ji3) + 1)) : Int).toNat).size + 1 ≤ 9223372036854775807
          · rw [if_pos c7] at H
            have c7b0 := eq_true c7
            have c7b1 : decide (((⟨#[48, 49, 50, 51, 52, 53, 54, 55, 56, 57, 97, 98, 99, 100, 101, 102, 103, 104, 105, 106, 107, 108, 109, 110, 111, 112, 113, 114, 115, 116, 117, 118, 119, 120, 121, 122, 65, 66, 67, 68, 69, 70, 71, 72, 73, 74, 75, 76, 77, 78, 79, 80, 81, 82, 83, 84, 85, 86, 87, 88, 89, 90]⟩ : ByteArray).extract ((ji3) : Int).toNat ((IntKind.u64.wrap ((ji3) + 1)) : Int).toNat).size + 1 ≤ 9223372036854775807) = true := decide_eq_true c7
            try have c7b2 : (9223372036854775807 < ((⟨#[48, 49, 50, 51, 52, 53, 54, 55, 56, 57, 97, 98, 99, 100, 101, 102, 103, 104, 105, 106, 107, 108, 109, 110, 111, 112, 113, 114, 115, 116, 117, 118, 119, 120, 121, 122, 65, 66, 67, 68, 69, 70, 71, 72, 73, 74, 75, 76, 77, 78, 79, 80, 81, 82, 83, 84, 85, 86, 87, 88, 89, 90]⟩ : ByteArray).extract ((ji3) : Int).toNat ((IntKind.u64.wrap ((ji3) + 1)) : Int).toNat).size + 1) = False := eq_false (Nat.not_lt.2 c7)
            try (have c7q := c7; rw [ByteArray.size_extract, Nat.min_eq_left (by show _ ≤ Array.size _; simp only [List.size_toArray, List.length_cons, List.length_nil]; omega)] at c7q; have c7b3 := eq_false (Nat.not_lt.2 c7q); clear c7q)
            have H' := Aside0.mk H
            clear H
            go_enter Tryd.func40, Tryd.ntmps40
            go_wp2
            go_loopg [0, 3] k (fun kq v0 v3 w' => ∃ (x0_1 : Int) (x3_1 : ByteArray), v0 = .int .u64 x0_1 ∧ v3 = .string x3_1 ∧ Aside0 (spec_IdBase62.l0 kq x0_1 x3_1 = some r) ∧ Aside0 (kq ≤ k) ∧ Drawn0 w w')
            case atStart => exact ⟨(IntKind.u64.wrap (Int.tdiv (IntKind.u64.wrap (a0 - 1)) 62)), (((⟨#[48, 49, 50, 51, 52, 53, 54, 55, 56, 57, 97, 98, 99, 100, 101, 102, 103, 104, 105, 106, 107, 108, 109, 110, 111, 112, 113, 114, 115, 116, 117, 118, 119, 120, 121, 122, 65, 66, 67, 68, 69, 70, 71, 72, 73, 74, 75, 76, 77, 78, 79, 80, 81, 82, 83, 84, 85, 86, 87, 88, 89, 90]⟩ : ByteArray).extract ((ji3) : Int).toNat ((IntKind.u64.wrap ((ji3) + 1)) : Int).toNat) ++ (⟨#[95]⟩ : ByteArray)), (by first | rfl | (simp; done) | (simp [*]; done)), (by first | rfl | (simp; done) | (simp only [← hji3] <;> (first | rfl | simp)) | (simp [*]; done)), H', ⟨Nat.le_refl _⟩, by repeat (first | exact Drawn0.refl _ | apply Drawn0.step)⟩
            case round =>
              clear H'
              try clear c2
              try clear c2b0
              try clear p2
              try clear c4
              try clear c4b0
              try clear c4b1
              try clear c5
              try clear c5b0
              try clear c5b1
              try clear c6
              try clear c6b0
              try clear c6b1
              try clear c7
              try clear c7b0
              try clear c7b1
              try clear c7b2
              obtain ⟨x0_1, x3_1, rfl, rfl, HA, HK1, ⟨m1, rfl⟩⟩ := hrel
              cases gk with
              | zero => exact absurd HA.out (by simp [spec_IdBase62.l0])
              | succ k1 =>
                have H := HA.out
                clear HA
                simp only [spec_IdBase62.l0] at H
                by_cases c8 : x0_1 > 0
                · rw [if_pos c8] at H
                  have c8b0 : decide (0 < x0_1) = true := decide_eq_true c8
                  clear c8
                  obtain ⟨ji9, hji9⟩ : ∃ j_ : Int, (Int.tmod x0_1 62) = j_ := ⟨_, rfl⟩
                  replace H : (if 0 ≤ (ji9) then (if (ji9) ≤ (IntKind.u64.wrap ((ji9) + 1)) then (if (IntKind.u64.wrap ((ji9) + 1)) ≤ 62 then (if ((⟨#[48, 49, 50, 51, 52, 53, 54, 55, 56, 57, 97, 98, 99, 100, 101, 102, 103, 104, 105, 106, 107, 108, 109, 110, 111, 112, 113, 114, 115, 116, 117, 118, 119, 120, 121, 122, 65, 66, 67, 68, 69, 70, 71, 72, 73, 74, 75, 76, 77, 78, 79, 80, 81, 82, 83, 84, 85, 86, 87, 88, 89, 90]⟩ : ByteArray).extract ((ji9) : Int).toNat ((IntKind.u64.wrap ((ji9) + 1)) : Int).toNat).size + x3_1.size ≤ 9223372036854775807 then (spec_IdBase62.l0 k1 (IntKind.u64.wrap (Int.tdiv x0_1 62)) (((⟨#[48, 49, 50, 51, 52, 53, 54, 55, 56, 57, 97, 98, 99, 100, 101, 102, 103, 104, 105, 106, 107, 108, 109, 110, 111, 112, 113, 114, 115, 116, 117, 118, 119, 120, 121, 122, 65, 66, 67, 68, 69, 70, 71, 72, 73, 74, 75, 76, 77, 78, 79, 80, 81, 82, 83, 84, 85, 86, 87, 88, 89, 90]⟩ : ByteArray).extract ((ji9) : Int).toNat ((IntKind.u64.wrap ((ji9) + 1)) : Int).toNat) ++ x3_1)) else (none)) else (none)) else (none)) else (none)) = some r := by first | (rw [hji9] at H; exact H) | (simp only [hji9] at H ⊢; exact H)
                  by_cases c10 : 0 ≤ (ji9)
                  · rw [if_pos c10] at H
                    have c10b0 := eq_true c10
                    have c10b1 : decide (0 ≤ (ji9)) = true := decide_eq_true c10
                    clear c10
                    by_cases c11 : (ji9) ≤ (IntKind.u64.wrap ((ji9) + 1))
                    · rw [if_pos c11] at H
                      have c11b0 := eq_true c11
                      have c11b1 : decide ((ji9) ≤ (IntKind.u64.wrap ((ji9) + 1))) = true := decide_eq_true c11
                      by_cases c12 : (IntKind.u64.wrap ((ji9) + 1)) ≤ 62
                      · rw [if_pos c12] at H
                        have c12b0 := eq_true c12
                        have c12b1 : decide ((IntKind.u64.wrap ((ji9) + 1)) ≤ 62) = true := decide_eq_true c12
                        by_cases c13 : ((⟨#[48, 49, 50, 51, 52, 53, 54, 55, 56, 57, 97, 98, 99, 100, 101, 102, 103, 104, 105, 106, 107, 108, 109, 110, 111, 112, 113, 114, 115, 116, 117, 118, 119, 120, 121, 122, 65, 66, 67, 68, 69, 70, 71, 72, 73, 74, 75, 76, 77, 78, 79, 80, 81, 82, 83, 84, 85, 86, 87, 88, 89, 90]⟩ : ByteArray).extract ((ji9) : Int).toNat ((IntKind.u64.wrap ((ji9) + 1)) : Int).toNat).size + x3_1.size ≤ 9223372036854775807
                        · rw [if_pos c13] at H
                          have c13b0 := eq_true c13
                          have c13b1 : decide (((⟨#[48, 49, 50, 51, 52, 53, 54, 55, 56, 57, 97, 98, 99, 100, 101, 102, 103, 104, 105, 106, 107, 108, 109, 110, 111, 112, 113, 114, 115, 116, 117, 118, 119, 120, 121, 122, 65, 66, 67, 68, 69, 70, 71, 72, 73, 74, 75, 76, 77, 78, 79, 80, 81, 82, 83, 84, 85, 86, 87, 88, 89, 90]⟩ : ByteArray).extract ((ji9) : Int).toNat ((IntKind.u64.wrap ((ji9) + 1)) : Int).toNat).size + x3_1.size ≤ 9223372036854775807) = true := decide_eq_true c13
                          try have c13b2 : (9223372036854775807 < ((⟨#[48, 49, 50, 51, 52, 53, 54, 55, 56, 57, 97, 98, 99, 100, 101, 102, 103, 104, 105, 106, 107, 108, 109, 110, 111, 112, 113, 114, 115, 116, 117, 118, 119, 120, 121, 122, 65, 66, 67, 68, 69, 70, 71, 72, 73, 74, 75, 76, 77, 78, 79, 80, 81, 82, 83, 84, 85, 86, 87, 88, 89, 90]⟩ : ByteArray).extract ((ji9) : Int).toNat ((IntKind.u64.wrap ((ji9) + 1)) : Int).toNat).size + x3_1.size) = False := eq_false (Nat.not_lt.2 c13)
                          try (have c13q := c13; rw [ByteArray.size_extract, Nat.min_eq_left (by show _ ≤ Array.size _; simp only [List.size_toArray, List.length_cons, List.length_nil]; omega)] at c13q; have c13b3 := eq_false (Nat.not_lt.2 c13q); clear c13q)
                          have H' := Aside0.mk H
                          clear H
                          go_wp2
                          go_roundg k1
                          case measure => have := HK1.out; omega
                          case rel => exact ⟨(IntKind.u64.wrap (Int.tdiv x0_1 62)), (((⟨#[48, 49, 50, 51, 52, 53, 54, 55, 56, 57, 97, 98, 99, 100, 101, 102, 103, 104, 105, 106, 107, 108, 109, 110, 111, 112, 113, 114, 115, 116, 117, 118, 119, 120, 121, 122, 65, 66, 67, 68, 69, 70, 71, 72, 73, 74, 75, 76, 77, 78, 79, 80, 81, 82, 83, 84, 85, 86, 87, 88, 89, 90]⟩ : ByteArray).extract ((ji9) : Int).toNat ((IntKind.u64.wrap ((ji9) + 1)) : Int).toNat) ++ x3_1), (by first | rfl | (simp; done) | (simp [*]; done)), (by first | rfl | (simp; done) | (simp only [← hji9] <;> (first | rfl | simp)) | (simp [*]; done)), H', ⟨by have := HK1.out; omega⟩, by repeat (first | exact Drawn0.refl _ | apply Drawn0.step)⟩
                        · rw [if_neg c13] at H
                          exact absurd H (by simp)
                      · rw [if_neg c12] at H
                        exact absurd H (by simp)
                    · rw [if_neg c11] at H
                      exact absurd H (by simp)
                  · rw [if_neg c10] at H
                    exact absurd H (by simp)
                · rw [if_neg c8] at H
                  have c8b0 : decide (0 < x0_1) = false := decide_eq_false c8
                  clear c8
                  obtain rfl := Option.some.inj H
                  go_wp2
                  go_ret
                  exact ⟨by first | rfl | (simp; done) | (simp only [← hji3] <;> (first | rfl | simp)) | (simp [*]; done), by repeat (first | exact Drawn0.refl _ | apply Drawn0.step)⟩
          · rw [if_neg c7] at H
            exact absurd H (by simp)
        · rw [if_neg c6] at H
          exact absurd H (by simp)
      · rw [if_neg c5] at H
        exact absurd H (by simp)
    · rw [if_neg c4] at H
      exact absurd H (by simp)
  · rw [if_neg c2] at H
    have c2b0 : decide (0 < a0) = false := decide_eq_false c2
    clear c2
    obtain rfl := Option.some.inj H
    go_enter Tryd.func40, Tryd.ntmps40
    go_wp2
    go_ret
    exact ⟨by first | rfl | (simp; done) | (simp [*]; done), by repeat (first | exact Drawn0.refl _ | apply Drawn0.step)⟩

/-! ### spec_IdDisambiguator: function 27 -/
def spec_IdDisambiguator.f (k : Nat) (a0 : Int) : Option (ByteArray) := if a0 = 0 then (some (⟨#[]⟩ : ByteArray)) else ((spec_IdBase62.f k (IntKind.u64.wrap (a0 - 1))).bind fun t113 => (if 1 + t113.size ≤ 9223372036854775807 then (some ((⟨#[115]⟩ : ByteArray) ++ t113)) else (none)))
theorem spec_IdDisambiguator.mono : ∀ a0 k, LeO (spec_IdDisambiguator.f k a0) (spec_IdDisambiguator.f (k + 1) a0) := by
  intro a0 k
  unfold spec_IdDisambiguator.f
  repeat' first
      | (with_reducible exact spec_IdBase62.mono _ _)
      | (with_reducible exact LeO.refl _)
      | (with_reducible exact LeO.none _)
      | (with_reducible refine LeO.ite ?_ ?_)
      | (with_reducible refine LeO.bind ?_ (fun _ => ?_))
      | exact spec_IdBase62.mono _ _
      | exact LeO.none _
      | refine LeO.ite ?_ ?_
      | refine LeO.bind ?_ (fun _ => ?_)
set_option maxHeartbeats 8000000 in
set_option maxRecDepth 100000 in
theorem spec_IdDisambiguator.calls (k : Nat) (a0 : Int) (r : ByteArray) (w : World) (h : spec_IdDisambiguator.f k a0 = some r) :
    Calls Tryd.prog 27 #[.int .u64 a0] w fun e w' => e = .returned (.string r) ∧ Drawn0 w w' := by
  have H : (if a0 = 0 then (some (⟨#[]⟩ : ByteArray)) else ((spec_IdBase62.f k (IntKind.u64.wrap (a0 - 1))).bind fun t113 => (if 1 + t113.size ≤ 9223372036854775807 then (some ((⟨#[115]⟩ : ByteArray) ++ t113)) else (none)))) = some r := h
  clear h
  by_cases c2 : a0 = 0
  · rw [if_pos c2] at H
    have c2b0 : (a0 == 0) = true := beq_iff_eq.mpr c2
    have c2b1 : (a0 != 0) = false := bne_eq_false_iff_eq.mpr c2
    clear c2
    obtain rfl := Option.some.inj H
    go_enter Tryd.func27, Tryd.ntmps27
    go_wp2
    go_ret
    exact ⟨by first | rfl | (simp; done) | (simp [*]; done), by repeat (first | exact Drawn0.refl _ | apply Drawn0.step)⟩
  · rw [if_neg c2] at H
    have c2b0 : (a0 == 0) = false := beq_eq_false_iff_ne.mpr c2
    have c2b1 : (a0 != 0) = true := bne_iff_ne.mpr c2
    replace H := Option.bind_eq_some_iff.mp H
    obtain ⟨t113, A30, H⟩ := H
    replace H : (if 1 + t113.size ≤ 9223372036854775807 then (some ((⟨#[115]⟩ : ByteArray) ++ t113)) else (none)) = some r := H
    have A3 := Aside0.mk A30
    clear A30
    by_cases c4 : 1 + t113.size ≤ 9223372036854775807
    · rw [if_pos c4] at H
      have c4b0 := eq_true c4
      have c4b1 : decide (1 + t113.size ≤ 9223372036854775807) = true := decide_eq_true c4
      try have c4b2 : (9223372036854775807 < 1 + t113.size) = False := eq_false (Nat.not_lt.2 c4)
      obtain rfl := Option.some.inj H
      go_enter Tryd.func27, Tryd.ntmps27
      go_wp2_with (first | (go_at_call 18; refine (idCut_at _ _ _ _ _ _ (by assumption) (by assumption)).mono ?_; rintro e w_ ⟨rfl, rfl⟩) | ((with_reducible refine gate_callee (f := 40) rfl ?_); refine goesL_ (some 7) rfl rfl Tryd.func40 (by kernel_rfl) rfl #[.int .u64 (IntKind.u64.wrap (a0 - 1))] rfl (by (try simp only [List.map_toArray, List.map_cons, List.map_nil]); first | done | rfl | (simp only [List.length_drop, List.length_take]; rfl)) ?_; (with_reducible refine (spec_IdBase62.calls k (IntKind.u64.wrap (a0 - 1)) t113 _ A3.out).mono ?_); rintro e w' ⟨rfl, ⟨nd, rfl⟩⟩; refine ⟨_, rfl, ?_⟩))
      go_ret
      exact ⟨by first | rfl | (simp; done) | (simp [*]; done), by repeat (first | exact Drawn0.refl _ | apply Drawn0.step)⟩
    · rw [if_neg c4] at H
      exact absurd H (by simp)

/-! ### laws_FnIdentifierRead: function 8 -/
def laws_FnIdentifierRead.j0 : Nat → List Int → Int → List Int → Bool → Option (Bool)
  | 0, _, _, _, _ => none
  | k + 1, x0, x1, x2, x16 => if x16 = true then (some true) else ((laws_idAt.f x1 1099511627776).bind fun t114 => (if 0 ≤ (mn (x0.length : Int) 1000) then (if (mn (x0.length : Int) 1000) ≤ (x0.length : Int) then ((spec_AnPlain.f k (x0.take ((mn (x0.length : Int) 1000) : Int).toNat)).bind fun t116 => ((spec_IdDisambiguator.f k (IntKind.u64.wrap (t114))).bind fun t117 => ((spec_IdWritten.f t116).bind fun t118 => (if t117.size + t118.size ≤ 9223372036854775807 then (if (t117 ++ t118).size + (strOfNums x2).size ≤ 9223372036854775807 then ((laws_doorIdentifier.f ((t117 ++ t118) ++ (strOfNums x2)) t114 t116 (strOfNums x2)).bind fun t119 => (some t119)) else (none)) else (none))))) else (none)) else (none)))
def laws_FnIdentifierRead.f (k : Nat) (l0 : List Int) (a1 : Int) (l2 : List Int) : Option (Bool) := if (l0.length : Int) > 2147483647 then (laws_FnIdentifierRead.j0 k l0 a1 l2 true) else (laws_FnIdentifierRead.j0 k l0 a1 l2 (decide ((l2.length : Int) > 2147483647)))
theorem laws_FnIdentifierRead.mono_l : ∀ k, (∀ y0 y1 y2 y3, LeO (laws_FnIdentifierRead.j0 k y0 y1 y2 y3) (laws_FnIdentifierRead.j0 (k + 1) y0 y1 y2 y3))
  | 0 => fun _ _ _ _ r h => by simp [laws_FnIdentifierRead.j0] at h
  | k + 1 => by
    have ih0 := laws_FnIdentifierRead.mono_l k
    · intro y0 y1 y2 y3
      unfold laws_FnIdentifierRead.j0
      repeat' first
      | (with_reducible exact ih0 _ _ _ _)
      | (with_reducible exact spec_AnPlain.mono _ _)
      | (with_reducible exact spec_IdDisambiguator.mono _ _)
      | (with_reducible exact LeO.refl _)
      | (with_reducible exact LeO.none _)
      | (with_reducible refine LeO.ite ?_ ?_)
      | (with_reducible refine LeO.bind ?_ (fun _ => ?_))
      | exact ih0 _ _ _ _
      | exact spec_AnPlain.mono _ _
      | exact spec_IdDisambiguator.mono _ _
      | exact LeO.none _
      | refine LeO.ite ?_ ?_
      | refine LeO.bind ?_ (fun _ => ?_)
theorem laws_FnIdentifierRead.mono : ∀ a0 a1 a2 k, LeO (laws_FnIdentifierRead.f k a0 a1 a2) (laws_FnIdentifierRead.f (k + 1) a0 a1 a2) := by
  intro a0 a1 a2 k
  have ih0 := laws_FnIdentifierRead.mono_l k
  unfold laws_FnIdentifierRead.f
  repeat' first
      | (with_reducible exact ih0 _ _ _ _)
      | (with_reducible exact spec_AnPlain.mono _ _)
      | (with_reducible exact spec_IdDisambiguator.mono _ _)
      | (with_reducible exact LeO.refl _)
      | (with_reducible exact LeO.none _)
      | (with_reducible refine LeO.ite ?_ ?_)
      | (with_reducible refine LeO.bind ?_ (fun _ => ?_))
      | exact ih0 _ _ _ _
      | exact spec_AnPlain.mono _ _
      | exact spec_IdDisambiguator.mono _ _
      | exact LeO.none _
      | refine LeO.ite ?_ ?_
      | refine LeO.bind ?_ (fun _ => ?_)
def laws_FnIdentifierRead.T4 : Bool × List (List Nat × List Nat) := (true, [([], []), ([0], [0]), ([1], [1]), ([], []), ([3, 2], [3]), ([2, 4], [2, 4]), ([], []), ([6], [6]), ([5, 7], [5, 7]), ([], []), ([], []), ([], []), ([11], [11]), ([8, 9, 10, 12, 4], [8, 9, 10, 12]), ([13, 13, 0, 1, 2, 3, 4, 5, 6, 7, 8, 9, 10, 11, 12, 13], [13])])
def laws_FnIdentifierRead.B4 : List Nat := [0, 1, 3, 0, 15, 31, 0, 64, 255, 0, 0, 0, 2048, 8191, 16383]
theorem laws_FnIdentifierRead.tab4 : rtab .any (opsOf Tryd.f8 4) = laws_FnIdentifierRead.T4 := by kernel_rfl
theorem laws_FnIdentifierRead.bits4 : waitsOk laws_FnIdentifierRead.T4.2 laws_FnIdentifierRead.B4 = true := by kernel_rfl
set_option maxHeartbeats 8000000 in
set_option maxRecDepth 100000 in
theorem laws_FnIdentifierRead.calls (k : Nat) (A0 : Option Addr) (c0 : Nat) (l0 : List Int) (a1 : Int) (A2 : Option Addr) (c2 : Nat) (l2 : List Int) (r : Bool) (w : World) (hr0 : Kd.C (Kd.int .u8) w A0 l0.length l0) (hc0 : l0.length ≤ c0) (hr2 : Kd.C (Kd.int .u8) w A2 l2.length l2) (hc2 : l2.length ≤ c2) (hT_ : StrIs w) (h : laws_FnIdentifierRead.f k l0 a1 l2 = some r) :
    Calls Tryd.prog 8 #[.slice A0 l0.length c0, .int .i64 a1, .slice A2 l2.length c2] w fun e w' => e = .returned (.bool r) ∧ Below w.heap.size w w' := by
  have HR0 := Aside0.mk hr0
  have HC0 := Aside0.mk hc0
  clear hr0 hc0
  have HR2 := Aside0.mk hr2
  have HC2 := Aside0.mk hc2
  clear hr2 hc2
  have HB := Aside0.mk (Below.refl w.heap.size w)
  have H : (if (l0.length : Int) > 2147483647 then (laws_FnIdentifierRead.j0 k l0 a1 l2 true) else (laws_FnIdentifierRead.j0 k l0 a1 l2 (decide ((l2.length : Int) > 2147483647)))) = some r := h
  clear h
  have HC4 := Aside0.mk H
  clear H
  go_enter Tryd.func8, Tryd.ntmps8
  go_upto_region 1 with (fail)
  go_cut [16] (fun v16 wc => ∃ (kq : Nat) (x16_3 : Bool), v16 = .bool x16_3 ∧ Aside0 (laws_FnIdentifierRead.j0 kq l0 a1 l2 x16_3 = some r) ∧ Aside0 (kq ≤ k) ∧ Aside0 (Below w.heap.size w wc))
  case first =>
    have H := HC4.out
    clear HC4
    by_cases c5 : (l0.length : Int) > 2147483647
    · rw [if_pos c5] at H
      have c5b0 : decide (2147483647 < (l0.length : Int)) = true := decide_eq_true c5
      have c5b1 : decide (2147483647 < l0.length) = true := decide_eq_true (by omega)
      clear c5
      (first | rw [c5b0] | (simp only [i64_w, i32_w]; rw [c5b0]) | rw [c5b1] | skip)
      have H' := Aside0.mk H
      clear H
      go_wp2
      go_meet
      case rel => exact ⟨_, (true), (by first | rfl | (simp; done) | (simp [*]; done)), H', ⟨by first | omega | exact Nat.le_refl _⟩, ⟨by repeat (first | (with_reducible first | exact HB.out | apply below_alloc | apply pw_below_drewN | apply below_drew1) | exact HB.out)⟩⟩
    · rw [if_neg c5] at H
      have c5b0 : decide (2147483647 < (l0.length : Int)) = false := decide_eq_false c5
      have c5b1 : decide (2147483647 < l0.length) = false := decide_eq_false (by omega)
      clear c5
      (first | rw [c5b0] | (simp only [i64_w, i32_w]; rw [c5b0]) | rw [c5b1] | skip)
      have H' := Aside0.mk H
      clear H
      go_wp2
      go_meet
      case rel => exact ⟨_, (decide ((l2.length : Int) > 2147483647)), (by first | rfl | (simp; done) | (simp [*]; done)), H', ⟨by first | omega | exact Nat.le_refl _⟩, ⟨by repeat (first | (with_reducible first | exact HB.out | apply below_alloc | apply pw_below_drewN | apply below_drew1) | exact HB.out)⟩⟩
  case rest =>
    clear HC4
    try clear c2
    try clear p2
    try clear c5
    try clear c5b0
    try clear c5b1
    obtain ⟨kq, x16_3, rfl, HA, HJ3, HB⟩ := hcut
    cases kq with
    | zero => exact absurd HA.out (by simp [laws_FnIdentifierRead.j0])
    | succ kj3 =>
      have H := HA.out
      clear HA
      simp only [laws_FnIdentifierRead.j0] at H
      by_cases c6 : x16_3 = true
      · subst c6
        have H1 : (some true) = some r := by rw [if_pos rfl] at H; exact H
        clear H
        have H := H1
        clear H1
        obtain rfl := Option.some.inj H
        go_wp2
        go_ret
        exact ⟨by first | rfl | (simp [errW_none, errW_some] <;> rfl) | (simp [*, errW_none, errW_some] <;> rfl), by repeat (first | (with_reducible first | exact HB.out | apply below_alloc | apply pw_below_drewN | apply below_drew1) | exact HB.out)⟩
      · replace c6 := Bool.eq_false_iff.mpr c6
        subst c6
        have H1 : ((laws_idAt.f a1 1099511627776).bind fun t114 => (if 0 ≤ (mn (l0.length : Int) 1000) then (if (mn (l0.length : Int) 1000) ≤ (l0.length : Int) then ((spec_AnPlain.f kj3 (l0.take ((mn (l0.length : Int) 1000) : Int).toNat)).bind fun t116 => ((spec_IdDisambiguator.f kj3 (IntKind.u64.wrap (t114))).bind fun t117 => ((spec_IdWritten.f t116).bind fun t118 => (if t117.size + t118.size ≤ 9223372036854775807 then (if (t117 ++ t118).size + (strOfNums l2).size ≤ 9223372036854775807 then ((laws_doorIdentifier.f ((t117 ++ t118) ++ (strOfNums l2)) t114 t116 (strOfNums l2)).bind fun t119 => (some t119)) else (none)) else (none))))) else (none)) else (none))) = some r := by rw [if_neg (show ¬ (false = true) by decide)] at H; exact H
        clear H
        have H := H1
        clear H1
        replace H := Option.bind_eq_some_iff.mp H
        obtain ⟨t114, A70, H⟩ := H
        replace H : (if 0 ≤ (mn (l0.length : Int) 1000) then (if (mn (l0.length : Int) 1000) ≤ (l0.length : Int) then ((spec_AnPlain.f kj3 (l0.take ((mn (l0.length : Int) 1000) : Int).toNat)).bind fun t116 => ((spec_IdDisambiguator.f kj3 (IntKind.u64.wrap (t114))).bind fun t117 => ((spec_IdWritten.f t116).bind fun t118 => (if t117.size + t118.size ≤ 9223372036854775807 then (if (t117 ++ t118).size + (strOfNums l2).size ≤ 9223372036854775807 then ((laws_doorIdentifier.f ((t117 ++ t118) ++ (strOfNums l2)) t114 t116 (strOfNums l2)).bind fun t119 => (some t119)) else (none)) else (none))))) else (none)) else (none)) = some r := H
        have A7 := Aside0.mk A70
        clear A70
        obtain ⟨ji8, hji8⟩ : ∃ j_ : Int, (mn (l0.length : Int) 1000) = j_ := ⟨_, rfl⟩
        replace H : (if 0 ≤ (ji8) then (if (ji8) ≤ (l0.length : Int) then ((spec_AnPlain.f kj3 (l0.take ((ji8) : Int).toNat)).bind fun t116 => ((spec_IdDisambiguator.f kj3 (IntKind.u64.wrap (t114))).bind fun t117 => ((spec_IdWritten.f t116).bind fun t118 => (if t117.size + t118.size ≤ 9223372036854775807 then (if (t117 ++ t118).size + (strOfNums l2).size ≤ 9223372036854775807 then ((laws_doorIdentifier.f ((t117 ++ t118) ++ (strOfNums l2)) t114 t116 (strOfNums l2)).bind fun t119 => (some t119)) else (none)) else (none))))) else (none)) else (none)) = some r := by first | (rw [hji8] at H; exact H) | (simp only [hji8] at H ⊢; exact H)
        (try rw [hji8] at A7)
        (try (have hji8h : ji8 ≤ 1000 := by (rw [← hji8]; unfold mn; (repeat' split) <;> omega)))
        (try (have hji8g : ji8 ≤ 64 := by omega))
        (try (have hji8l : 0 ≤ ji8 := by (rw [← hji8]; unfold mn; (repeat' split) <;> omega)))
        (try (have hji8m : 0 ≤ ji8 := by omega))
        have hji8_ : (if 1000 < (l0.length : Int) then 1000 else (l0.length : Int)) = ji8 := hji8
        by_cases c9 : 0 ≤ (ji8)
        · rw [if_pos c9] at H
          have c9b0 := eq_true c9
          have c9b1 : decide (0 ≤ (ji8)) = true := decide_eq_true c9
          clear c9
          by_cases c10 : (ji8) ≤ (l0.length : Int)
          · rw [if_pos c10] at H
            have c10b0 := eq_true c10
            have c10b1 : decide ((ji8) ≤ (l0.length : Int)) = true := decide_eq_true c10
            clear c10
            replace H := Option.bind_eq_some_iff.mp H
            obtain ⟨t116, A110, H⟩ := H
            replace H : ((spec_IdDisambiguator.f kj3 (IntKind.u64.wrap (t114))).bind fun t117 => ((spec_IdWritten.f t116).bind fun t118 => (if t117.size + t118.size ≤ 9223372036854775807 then (if (t117 ++ t118).size + (strOfNums l2).size ≤ 9223372036854775807 then ((laws_doorIdentifier.f ((t117 ++ t118) ++ (strOfNums l2)) t114 t116 (strOfNums l2)).bind fun t119 => (some t119)) else (none)) else (none)))) = some r := H
            have A11 := Aside0.mk A110
            clear A110
            replace H := Option.bind_eq_some_iff.mp H
            obtain ⟨t117, A120, H⟩ := H
            replace H : ((spec_IdWritten.f t116).bind fun t118 => (if t117.size + t118.size ≤ 9223372036854775807 then (if (t117 ++ t118).size + (strOfNums l2).size ≤ 9223372036854775807 then ((laws_doorIdentifier.f ((t117 ++ t118) ++ (strOfNums l2)) t114 t116 (strOfNums l2)).bind fun t119 => (some t119)) else (none)) else (none))) = some r := H
            have A12 := Aside0.mk A120
            clear A120
            replace H := Option.bind_eq_some_iff.mp H
            obtain ⟨t118, A130, H⟩ := H
            replace H : (if t117.size + t118.size ≤ 9223372036854775807 then (if (t117 ++ t118).size + (strOfNums l2).size ≤ 9223372036854775807 then ((laws_doorIdentifier.f ((t117 ++ t118) ++ (strOfNums l2)) t114 t116 (strOfNums l2)).bind fun t119 => (some t119)) else (none)) else (none)) = some r := H
            have A13 := Aside0.mk A130
            clear A130
            by_cases c14 : t117.size + t118.size ≤ 9223372036854775807
            · rw [if_pos c14] at H
              have c14b0 := eq_true c14
              have c14b1 : decide (t117.size + t118.size ≤ 9223372036854775807) = true := decide_eq_true c14
              try have c14b2 : (9223372036854775807 < t117.size + t118.size) = False := eq_false (Nat.not_lt.2 c14)
              by_cases c15 : (t117 ++ t118).size + (strOfNums l2).size ≤ 9223372036854775807
              · rw [if_pos c15] at H
                have c15b0 := eq_true c15
                have c15b1 : decide ((t117 ++ t118).size + (strOfNums l2).size ≤ 9223372036854775807) = true := decide_eq_true c15
                try have c15b2 : (9223372036854775807 < (t117 ++ t118).size + (strOfNums l2).size) = False := eq_false (Nat.not_lt.2 c15)
                try have c15b4 : (9223372036854775807 < t117.size + t118.size + (strOfNums l2).size) = False := eq_false (by have h_ := c15; repeat rw [ByteArray.size_append] at h_; exact Nat.not_lt.2 h_)
                replace H := Option.bind_eq_some_iff.mp H
                obtain ⟨t119, A160, H⟩ := H
                replace H : (some t119) = some r := H
                have A16 := Aside0.mk A160
                clear A160
                obtain rfl := Option.some.inj H
                try go_wp2_with (first | (go_at_call 18; refine (idCut_at _ _ _ _ _ _ (by assumption) (by assumption)).mono ?_; rintro e w_ ⟨rfl, rfl⟩) | ((with_reducible refine gate_callee (f := 14) rfl ?_); refine goesL_ (some 18) rfl rfl Tryd.func14 (by kernel_rfl) rfl #[.int .i64 a1, .int .i64 1099511627776] rfl (by (try simp only [List.map_toArray, List.map_cons, List.map_nil]); first | done | rfl | (simp only [List.length_drop, List.length_take]; rfl)) ?_; (with_reducible refine (laws_idAt.calls a1 1099511627776 t114 _ A7.out).mono ?_); rintro e w' ⟨rfl, ⟨nd, rfl⟩⟩; refine ⟨_, rfl, ?_⟩; obtain ⟨i017, hi017, _, hsz17, _⟩ := info_parts info5; obtain ⟨hcut17, hA17, hC17⟩ := print_take_of (P := Tryd.prog) (Value.int .u8) 0 25 5 .i64 Tryd.underlying25 hi017 hsz17 A0 c0 l0 (ji8) (of_decide_eq_true (by first | (with_reducible assumption) | assumption)) (of_decide_eq_true (by first | (with_reducible assumption) | assumption)) HC0.out; have HR115 := Aside0.mk (Kd.C_of_reads (h1 := fun _ => rfl) (hA17 _ (Kd.reads_of_C HR0.out))); have HC115 := Aside0.mk hC17; clear hA17 hC17 hi017 hsz17) | ((with_reducible refine gate_callee (f := 17) rfl ?_); refine goesL_ (some 21) rfl rfl Tryd.func17 (by kernel_rfl) rfl #[.slice A0 (l0.take ((ji8) : Int).toNat).length c0] rfl (by (try simp only [List.map_toArray, List.map_cons, List.map_nil]); first | done | (rw [show (l0.take ((ji8) : Int).toNat).length = (ji8).toNat from (by rw [List.length_take]; have h_ : ((ji8) : Int) ≤ (l0.length : Int) := of_decide_eq_true (by first | (with_reducible assumption) | assumption); omega)] <;> rfl) | (simp only [hji8]; rfl) | rfl | (simp only [List.length_drop, List.length_take]; rfl)) ?_; (with_reducible refine (spec_AnPlain.calls kj3 _ _ (l0.take ((ji8) : Int).toNat) t116 _ ?side1 ?side2 A11.out).mono ?_); (case side1 => repeat (first | exact (Kd.C_below HR115.out (by repeat (first | (with_reducible first | exact HB.out | apply below_alloc | apply pw_below_drewN | apply below_drew1) | exact HB.out))) | (with_reducible refine Kd.C_alloc ?_ _) | (with_reducible refine Kd.C_drewN ?_ _) | (with_reducible refine Kd.C_drew ?_))); (case side2 => exact HC115.out); rintro e w18 ⟨rfl, hb⟩; refine ⟨_, rfl, ?_⟩; have n0_ := Aside0.mk (below_step (by repeat (first | (with_reducible first | exact HB.out | apply below_alloc | apply pw_below_drewN | apply below_drew1) | exact HB.out)) hb); clear HB; have HB := n0_; clear n0_; (try clear hb); (try clear hb2); (try clear hk); (try clear hi)))
                have n0_ := Aside0.mk (below_drew1 HB.out)
                clear HB
                have HB := n0_
                clear n0_
                refine start_ (n := 15) (S := fun w' => (convert 25 9 (.slice A2 l2.length c2)).run Tryd.prog w' = .ok (.string (strOfNums l2)) w') (ds := []) #[false, false, false, false, false, false, false, false, false, false, false, false, false, false, false] (by kernel_rfl) rfl rfl (Kd.C_string (P := Tryd.prog) (A := A2) (c := c2) Tryd.underlying25 Tryd.underlying5 Tryd.underlying9 (Kd.C_below HR2.out HB.out)) (fun hHeld => ?_); refine with_tabW laws_FnIdentifierRead.tab4 laws_FnIdentifierRead.bits4 (fun HT_ HW_ => ?_)
                generalize w18.drew = w19 at HB hHeld ⊢
                refine pure_ (i := 0) (N := some 22) (v := ?_) (a' := ?_) #[true, false, false, false, false, false, false, false, false, false, false, false, false, false, false] rfl rfl (any_of HT_.out (by kernel_rfl)) (fun _ _ _ h => h) (Or.inl ⟨by rfl, ?_⟩) ?_ ?_
                rotate_left
                · intro w'
                  go_simp
                  with_reducible rfl
                rotate_left
                · simp only [Act.put, List.setIfInBounds_toArray, List.set_cons_zero, List.set_cons_succ, i64_w, i32_w]
                  rfl
                refine pure_ (i := 1) (N := some 23) (v := ?_) (a' := ?_) #[true, true, false, false, false, false, false, false, false, false, false, false, false, false, false] rfl rfl (any_of HT_.out (by kernel_rfl)) (fun _ _ _ h => h) (Or.inl ⟨by rfl, ?_⟩) ?_ ?_
                rotate_left
                · intro w'
                  go_simp
                  with_reducible rfl
                rotate_left
                · simp only [Act.put, List.setIfInBounds_toArray, List.set_cons_zero, List.set_cons_succ, i64_w, i32_w]
                  rfl
                refine pure_ (i := 3) (N := some 25) (v := ?_) (a' := ?_) #[true, true, false, true, false, false, false, false, false, false, false, false, false, false, false] rfl rfl (any_of HT_.out (by kernel_rfl)) (fun _ _ _ h => h) (Or.inl ⟨by rfl, ?_⟩) ?_ ?_
                rotate_left
                · intro w'
                  go_simp
                  with_reducible rfl
                rotate_left
                · simp only [Act.put, List.setIfInBounds_toArray, List.set_cons_zero, List.set_cons_succ, i64_w, i32_w]
                  rfl
                refine pure_ (i := 6) (N := some 28) (v := ?_) (a' := ?_) #[true, true, false, true, false, false, true, false, false, false, false, false, false, false, false] rfl rfl (any_of HT_.out (by kernel_rfl)) (fun _ _ _ h => h) (Or.inl ⟨by rfl, ?_⟩) ?_ ?_
                rotate_left
                · intro w'
                  go_simp
                  with_reducible rfl
                rotate_left
                · simp only [Act.put, List.setIfInBounds_toArray, List.set_cons_zero, List.set_cons_succ, i64_w, i32_w]
                  rfl
                refine take_ (i := 7) (N := some 29) (v := ?_) (a' := ?_) #[true, true, false, true, false, false, true, true, false, false, false, false, false, false, false] rfl rfl (take_ofW HT_.out HW_.out (by kernel_rfl)) (fun _ _ _ h => h) (Or.inl ⟨by rfl, ?_⟩) hHeld ?_ ?_
                rotate_left
                · intro w' s0
                  go_simp
                  with_reducible rfl
                rotate_left
                · simp only [Act.put, List.setIfInBounds_toArray, List.set_cons_zero, List.set_cons_succ, i64_w, i32_w]
                  rfl
                refine pure_ (i := 9) (N := some 31) (v := ?_) (a' := ?_) #[true, true, false, true, false, false, true, true, false, true, false, false, false, false, false] rfl rfl (any_of HT_.out (by kernel_rfl)) (fun _ _ _ h => h) (Or.inl ⟨by rfl, ?_⟩) ?_ ?_
                rotate_left
                · intro w'
                  go_simp
                  with_reducible rfl
                rotate_left
                · simp only [Act.put, List.setIfInBounds_toArray, List.set_cons_zero, List.set_cons_succ, i64_w, i32_w]
                  rfl
                refine pure_ (i := 10) (N := some 32) (v := ?_) (a' := ?_) #[true, true, false, true, false, false, true, true, false, true, true, false, false, false, false] rfl rfl (any_of HT_.out (by kernel_rfl)) (fun _ _ _ h => h) (Or.inl ⟨by rfl, ?_⟩) ?_ ?_
                rotate_left
                · intro w'
                  go_simp
                  with_reducible rfl
                rotate_left
                · simp only [Act.put, List.setIfInBounds_toArray, List.set_cons_zero, List.set_cons_succ, i64_w, i32_w]
                  rfl
                refine pure_ (i := 11) (N := some 33) (v := ?_) (a' := ?_) #[true, true, false, true, false, false, true, true, false, true, true, true, false, false, false] rfl rfl (any_of HT_.out (by kernel_rfl)) (fun _ _ _ h => h) (Or.inl ⟨by rfl, ?_⟩) ?_ ?_
                rotate_left
                · intro w'
                  go_simp
                  with_reducible rfl
                rotate_left
                · simp only [Act.put, List.setIfInBounds_toArray, List.set_cons_zero, List.set_cons_succ, i64_w, i32_w]
                  rfl
                refine take_ (i := 12) (N := some 34) (v := ?_) (a' := ?_) #[true, true, false, true, false, false, true, true, false, true, true, true, true, false, false] rfl rfl (take_ofW HT_.out HW_.out (by kernel_rfl)) (fun _ _ _ h => h) (Or.inl ⟨by rfl, ?_⟩) hHeld ?_ ?_
                rotate_left
                · intro w' s0
                  go_simp
                  with_reducible rfl
                rotate_left
                · simp only [Act.put, List.setIfInBounds_toArray, List.set_cons_zero, List.set_cons_succ, i64_w, i32_w]
                  rfl
                refine one_ (i := 2) (N := some 24) #[true, true, true, true, false, false, true, true, false, true, true, true, true, false, false] rfl rfl (one_of HT_.out (by kernel_rfl)) (by decide) (fun K hK => ?_)
                refine goes_ Tryd.func27 (by kernel_rfl) rfl #[.int .u64 (IntKind.u64.wrap (t114))] (by rfl) rfl rfl (by (try simp only [List.map_toArray, List.map_cons, List.map_nil]); first | done | rfl | (simp only [List.length_drop, List.length_take]; rfl)) ?_
                with_reducible refine (spec_IdDisambiguator.calls kj3 (IntKind.u64.wrap (t114)) t117 _ A12.out).mono ?_
                rintro e w' ⟨rfl, ⟨nd, rfl⟩⟩
                refine ⟨_, rfl, ?_⟩
                refine hK.out _ _ (Kd.C_string (P := Tryd.prog) (A := A2) (c := c2) Tryd.underlying25 Tryd.underlying5 Tryd.underlying9 (Kd.C_drewN (Kd.C_below HR2.out HB.out) nd)) (fun hHeld => ?_)
                clear hK K
                refine norm_ (a' := ?_) ?_ ?_
                rotate_left
                · show Act.put _ (some 24) _ = _
                  simp only [Act.put, List.setIfInBounds_toArray, List.set_cons_zero, List.set_cons_succ, i64_w, i32_w]
                  rfl
                refine one_ (i := 4) (N := some 26) #[true, true, true, true, true, false, true, true, false, true, true, true, true, false, false] rfl rfl (one_of HT_.out (by kernel_rfl)) (by decide) (fun K hK => ?_)
                refine goes_ Tryd.func28 (by kernel_rfl) rfl #[.string t116] (by rfl) rfl rfl (by (try simp only [List.map_toArray, List.map_cons, List.map_nil]); first | done | rfl | (simp only [List.length_drop, List.length_take]; rfl)) ?_
                with_reducible refine (spec_IdWritten.calls t116 t118 _ (show StrIs _ from ?side1) A13.out).mono ?_
                (case side1 => exact Stays.below hT_ (by first | (repeat (first | (with_reducible first | exact HB.out | apply below_alloc | apply pw_below_drewN | apply below_drew1) | exact HB.out)) | (repeat (first | exact Below.refl _ _ | apply below_drew1 | apply pw_below_drewN))))
                rintro e w20 ⟨rfl, hb⟩
                refine ⟨_, rfl, ?_⟩
                have n0_ := Aside0.mk (below_step (by repeat (first | (with_reducible first | exact HB.out | apply below_alloc | apply pw_below_drewN | apply below_drew1) | exact HB.out)) hb)
                clear HB
                have HB := n0_
                clear n0_
                (try clear hb)
                (try clear hb2)
                (try clear hk)
                (try clear hi)
                have hcv21 := Kd.C_string (P := Tryd.prog) (A := A2) (c := c2) Tryd.underlying25 Tryd.underlying5 Tryd.underlying9 (Kd.C_below HR2.out HB.out)
                have hcvn21 := fun (nq_ : Nat) => Kd.C_string (P := Tryd.prog) (A := A2) (c := c2) Tryd.underlying25 Tryd.underlying5 Tryd.underlying9 (Kd.C_drewN ((Kd.C_below HR2.out HB.out)) nq_)
                have hcv22 := Kd.C_string (P := Tryd.prog) (A := A2) (c := c2) Tryd.underlying25 Tryd.underlying5 Tryd.underlying9 (Kd.C_below HR2.out HB.out)
                have hcvn22 := fun (nq_ : Nat) => Kd.C_string (P := Tryd.prog) (A := A2) (c := c2) Tryd.underlying25 Tryd.underlying5 Tryd.underlying9 (Kd.C_drewN ((Kd.C_below HR2.out HB.out)) nq_)
                refine hK.out _ _ (Kd.C_string (P := Tryd.prog) (A := A2) (c := c2) Tryd.underlying25 Tryd.underlying5 Tryd.underlying9 (Kd.C_below HR2.out HB.out)) (fun hHeld => ?_)
                clear hK K
                refine norm_ (a' := ?_) ?_ ?_
                rotate_left
                · show Act.put _ (some 26) _ = _
                  simp only [Act.put, List.setIfInBounds_toArray, List.set_cons_zero, List.set_cons_succ, i64_w, i32_w]
                  rfl
                refine pure_ (i := 5) (N := some 27) (v := ?_) (a' := ?_) #[true, true, true, true, true, true, true, true, false, true, true, true, true, false, false] rfl rfl (any_of HT_.out (by kernel_rfl)) (fun _ _ _ h => h) (Or.inl ⟨by rfl, ?_⟩) ?_ ?_
                rotate_left
                · intro w'
                  go_simp
                  with_reducible rfl
                rotate_left
                · simp only [Act.put, List.setIfInBounds_toArray, List.set_cons_zero, List.set_cons_succ, i64_w, i32_w]
                  rfl
                refine pure_ (i := 8) (N := some 30) (v := ?_) (a' := ?_) #[true, true, true, true, true, true, true, true, true, true, true, true, true, false, false] rfl rfl (any_of HT_.out (by kernel_rfl)) (fun _ _ _ h => h) (Or.inl ⟨by rfl, ?_⟩) ?_ ?_
                rotate_left
                · intro w'
                  go_simp
                  with_reducible rfl
                rotate_left
                · simp only [Act.put, List.setIfInBounds_toArray, List.set_cons_zero, List.set_cons_succ, i64_w, i32_w]
                  rfl
                refine one_ (i := 13) (N := some 35) #[true, true, true, true, true, true, true, true, true, true, true, true, true, true, false] rfl rfl (one_of HT_.out (by kernel_rfl)) (by decide) (fun K hK => ?_)
                refine goes_ Tryd.func26 (by kernel_rfl) rfl #[.string ((t117 ++ t118) ++ (strOfNums l2)), .int .i64 t114, .string t116, .string (strOfNums l2)] (by rfl) rfl rfl (by (try simp only [List.map_toArray, List.map_cons, List.map_nil]); first | done | rfl | (simp only [List.length_drop, List.length_take]; rfl)) ?_
                with_reducible refine (laws_doorIdentifier.calls ((t117 ++ t118) ++ (strOfNums l2)) t114 t116 (strOfNums l2) t119 _ A16.out).mono ?_
                rintro e w24 ⟨rfl, hb⟩
                refine ⟨_, rfl, ?_⟩
                have n0_ := Aside0.mk (below_step (by repeat (first | (with_reducible first | exact HB.out | apply below_alloc | apply pw_below_drewN | apply below_drew1) | exact HB.out)) hb)
                clear HB
                have HB := n0_
                clear n0_
                (try clear hb)
                (try clear hb2)
                (try clear hk)
                (try clear hi)
                refine hK.out _ _ (Kd.C_string (P := Tryd.prog) (A := A2) (c := c2) Tryd.underlying25 Tryd.underlying5 Tryd.underlying9 (Kd.C_below HR2.out HB.out)) (fun hHeld => ?_)
                clear hK K
                refine norm_ (a' := ?_) ?_ ?_
                rotate_left
                · show Act.put _ (some 35) _ = _
                  simp only [Act.put, List.setIfInBounds_toArray, List.set_cons_zero, List.set_cons_succ, i64_w, i32_w]
                  rfl
                refine pure_ (i := 14) (N := some 6) (v := ?_) (a' := ?_) #[true, true, true, true, true, true, true, true, true, true, true, true, true, true, true] rfl rfl (any_of HT_.out (by kernel_rfl)) (fun _ _ _ h => h) (Or.inl ⟨by rfl, ?_⟩) ?_ ?_
                rotate_left
                · intro w'
                  go_simp
                  with_reducible rfl
                rotate_left
                · simp only [Act.put, List.setIfInBounds_toArray, List.set_cons_zero, List.set_cons_succ, i64_w, i32_w]
                  rfl
                refine done_ (done_of HT_.out (by kernel_rfl)) ?_
                try go_wp2
                go_ret
                exact ⟨by first | rfl | (simp [errW_none, errW_some] <;> rfl) | (simp only [← hji8]; first | rfl | (simp [errW_none, errW_some] <;> rfl)) | (simp [*, errW_none, errW_some] <;> rfl), by repeat (first | (with_reducible first | exact HB.out | apply below_alloc | apply pw_below_drewN | apply below_drew1) | exact HB.out)⟩
              · rw [if_neg c15] at H
                exact absurd H (by simp)
            · rw [if_neg c14] at H
              exact absurd H (by simp)
          · rw [if_neg c10] at H
            exact absurd H (by simp)
        · rw [if_neg c9] at H
          exact absurd H (by simp)

/-- THE ONE PURE STATEMENT of laws_FnIdentifierRead: yours. -/
def laws_FnIdentifierRead.Pure : Prop := ∀ (l0 : List Int) (a1 : Int) (l2 : List Int), l0.length ≤ maxLen → l0.length * 1 ≤ 140737488351232 → (∀ x ∈ l0, (Lit.int .u8 x).wf = true) → (Lit.int .i64 a1).wf = true → l2.length ≤ maxLen → l2.length * 1 ≤ 140737488351232 → (∀ x ∈ l2, (Lit.int .u8 x).wf = true) → ∃ k, laws_FnIdentifierRead.f k l0 a1 l2 = some true
theorem laws_FnIdentifierRead.walk (P : laws_FnIdentifierRead.Pure) (a0 : Option Addr) (len0 cap0 : Nat) (z0 : List Int) (a1 : Int) (a2 : Option Addr) (len2 cap2 : Nat) (z2 : List Int) (w : World) (hT_ : StrIs w) (w0 : (a0 = none ∧ len0 = 0 ∧ cap0 = 0 ∧ z0 = []) ∨ ∃ x, a0 = some x ∧ len0 ≤ cap0 ∧ cap0 ≤ maxLen ∧ z0.length = cap0 ∧ (∀ i, i < z0.length → w.cell? (x.add i) = some (.int .u8 (z0.getD i 0))) ∧ ∀ n ∈ z0, (Lit.int .u8 n).wf = true) (y0 : len0 * 1 ≤ 140737488351232) (w1 : (Lit.int .i64 a1).wf = true) (w2 : (a2 = none ∧ len2 = 0 ∧ cap2 = 0 ∧ z2 = []) ∨ ∃ x, a2 = some x ∧ len2 ≤ cap2 ∧ cap2 ≤ maxLen ∧ z2.length = cap2 ∧ (∀ i, i < z2.length → w.cell? (x.add i) = some (.int .u8 (z2.getD i 0))) ∧ ∀ n ∈ z2, (Lit.int .u8 n).wf = true) (y2 : len2 * 1 ≤ 140737488351232) :
    Calls Tryd.prog 8 #[.slice a0 len0 cap0, .int .i64 a1, .slice a2 len2 cap2] w fun e w' => e = .returned (.bool true) ∧ Below w.heap.size w w' := by
  obtain ⟨l0, rfl, hr0, hm0, hw0, hc0⟩ := ReadsInt.ofRowC w0
  obtain ⟨l2, rfl, hr2, hm2, hw2, hc2⟩ := ReadsInt.ofRowC w2
  obtain ⟨k, h⟩ := P l0 a1 l2 hm0 y0 hw0 w1 hm2 y2 hw2
  refine (laws_FnIdentifierRead.calls k _ _ l0 a1 _ _ l2 true w (Kd.C_of_reads (d := (0 : Int)) (h1 := fun _ => rfl) hr0) hc0 (Kd.C_of_reads (d := (0 : Int)) (h1 := fun _ => rfl) hr2) hc2 hT_ h).mono ?_
  rintro e w' ⟨rfl, hd⟩
  exact ⟨rfl, hd⟩

end Go.Proofs.YtfblehpiecialaaDoor.PFnIdentifierRead
