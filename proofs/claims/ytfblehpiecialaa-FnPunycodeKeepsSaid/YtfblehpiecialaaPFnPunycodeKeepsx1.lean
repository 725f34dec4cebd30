/- Written by a program of this session (wip/tools/myprint.py) with the kit's print: contracts of the functions that one statement reaches; functions that are proved by hand are taken as printed. Conditions: none. -/
import Derived.Test.YtfblehpiecialaaPFnPunycodeKeepsx0
namespace Go.Proofs.Ytfblehpiecialaa.PFnPunycodeKeeps
open Go.RowKit Go.Proofs.YtfblehpiecialaaW.PrintWords Go.Proofs.YtfblehpiecialaaW.PrintLast Go.Proofs.YtfblehpiecialaaW.PrintMore
attribute [local go_sem] max2_int min2_int max_two min_two max_three min_three max_four min_four   -- for this text's walks alone
set_option linter.unusedVariables false
set_option linter.unusedSimpArgs false

/-! ### spec_AnPlain: function 13 -/
def spec_AnPlain.l0 : Nat → List Int → List Int → Int → Int → Option (ByteArray)
  | 0, _, _, _, _ => none
  | k + 1, x3, x12, x13, x14 => if x14 < x13 then (if 0 ≤ x14 then (if x14 < (x12.length : Int) then (if 0 ≤ (Int.tmod (wrap64 (rd x12 x14)) 63) then (if (Int.tmod (wrap64 (rd x12 x14)) 63) < 63 then (if x14 < (x3.length : Int) then (spec_AnPlain.l0 k (x3.set (x14 : Int).toNat (bt (⟨#[97, 98, 99, 100, 101, 102, 103, 104, 105, 106, 107, 108, 109, 110, 111, 112, 113, 114, 115, 116, 117, 118, 119, 120, 121, 122, 65, 66, 67, 68, 69, 70, 71, 72, 73, 74, 75, 76, 77, 78, 79, 80, 81, 82, 83, 84, 85, 86, 87, 88, 89, 90, 48, 49, 50, 51, 52, 53, 54, 55, 56, 57, 95]⟩ : ByteArray) (Int.tmod (wrap64 (rd x12 x14)) 63))) x12 x13 (wrap64 (x14 + 1))) else (none)) else (none)) else (none)) else (none)) else (none)) else (some (strOfNums x3))
def spec_AnPlain.f (k : Nat) (l0 : List Int) : Option (ByteArray) := if (l0.length : Int) = 0 then (some (⟨#[97]⟩ : ByteArray)) else (if 0 ≤ (l0.length : Int) then (if ((l0.length : Int) : Int).toNat ≤ 281474976710656 then (spec_AnPlain.l0 k (List.replicate ((l0.length : Int) : Int).toNat 0) l0 (l0.length : Int) 0) else (none)) else (none))
theorem spec_AnPlain.mono_l : ∀ k, (∀ y0 y1 y2 y3, LeO (spec_AnPlain.l0 k y0 y1 y2 y3) (spec_AnPlain.l0 (k + 1) y0 y1 y2 y3))
  | 0 => fun _ _ _ _ r h => by simp [spec_AnPlain.l0] at h
  | k + 1 => by
    have ih0 := spec_AnPlain.mono_l k
    · intro y0 y1 y2 y3
      unfold spec_AnPlain.l0
      repeat' first
      | (with_reducible exact ih0 _ _ _ _)
      | (with_reducible exact LeO.refl _)
      | (with_reducible exact LeO.none _)
      | (with_reducible refine LeO.ite ?_ ?_)
      | (with_reducible refine LeO.bind ?_ (fun _ => ?_))
      | exact ih0 _ _ _ _
      | exact LeO.none _
      | refine LeO.ite ?_ ?_
      | refine LeO.bind ?_ (fun _ => ?_)
theorem spec_AnPlain.mono : ∀ a0 k, LeO (spec_AnPlain.f k a0) (spec_AnPlain.f (k + 1) a0) := by
  intro a0 k
  have ih0 := spec_AnPlain.mono_l k
  unfold spec_AnPlain.f
  repeat' first
      | (with_reducible exact ih0 _ _ _ _)
      | (with_reducible exact LeO.refl _)
      | (with_reducible exact LeO.none _)
      | (with_reducible refine LeO.ite ?_ ?_)
      | (with_reducible refine LeO.bind ?_ (fun _ => ?_))
      | exact ih0 _ _ _ _
      | exact LeO.none _
      | refine LeO.ite ?_ ?_
      | refine LeO.bind ?_ (fun _ => ?_)
set_option maxHeartbeats 8000000 in
set_option maxRecDepth 100000 in
theorem spec_AnPlain.calls (k : Nat) (A0 : Option Addr) (c0 : Nat) (l0 : List Int) (r : ByteArray) (w : World) (hr0 : Kd.C (Kd.int .u8) w A0 l0.length l0) (hc0 : l0.length ≤ c0) (h : spec_AnPlain.f k l0 = some r) :
    Calls Try.prog 13 #[.slice A0 l0.length c0] w fun e w' => e = .returned (.string r) ∧ Below w.heap.size w w' := by
  have HR0 := Aside0.mk hr0
  have HC0 := Aside0.mk hc0
  clear hr0 hc0
  have HB := Aside0.mk (Below.refl w.heap.size w)
  have H : (if (l0.length : Int) = 0 then (some (⟨#[97]⟩ : ByteArray)) else (if 0 ≤ (l0.length : Int) then (if ((l0.length : Int) : Int).toNat ≤ 281474976710656 then (spec_AnPlain.l0 k (List.replicate ((l0.length : Int) : Int).toNat 0) l0 (l0.length : Int) 0) else (none)) else (none))) = some r := h
  clear h
  by_cases c2 : (l0.length : Int) = 0
  · rw [if_pos c2] at H
    have c2b0 : ((l0.length : Int) == 0) = true := beq_iff_eq.mpr c2
    have c2b1 : ((l0.length : Int) != 0) = false := bne_eq_false_iff_eq.mpr c2
    clear c2
    obtain rfl := Option.some.inj H
    go_enter Try.func13, Try.ntmps13
    go_wp2
    go_ret
    exact ⟨by first | rfl | (simp [errW_none, errW_some] <;> rfl) | (simp [*, errW_none, errW_some] <;> rfl), by repeat (first | (with_reducible first | exact HB.out | apply below_alloc | apply pw_below_drewN | apply below_drew1) | exact HB.out)⟩
  · rw [if_neg c2] at H
    have c2b0 : ((l0.length : Int) == 0) = false := beq_eq_false_iff_ne.mpr c2
    have c2b1 : ((l0.length : Int) != 0) = true := bne_iff_ne.mpr c2
    have c2b2 : ¬ (l0 = []) := fun h_ => c2 (by rw [h_]; rfl)
    by_cases c3 : 0 ≤ (l0.length : Int)
    · rw [if_pos c3] at H
      have c3b0 := eq_true c3
      have c3b1 : decide (0 ≤ (l0.length : Int)) = true := decide_eq_true c3
      clear c3
      by_cases c4 : ((l0.length : Int) : Int).toNat ≤ 281474976710656
      · rw [if_pos c4] at H
        have c4b0 := eq_true c4
        have c4b1 : decide (((l0.length : Int) : Int).toNat ≤ 281474976710656) = true := decide_eq_true c4
        clear c4
        obtain ⟨y101, hy101⟩ : ∃ y_ : List Int, y_ = (List.replicate ((l0.length : Int) : Int).toNat 0) := ⟨_, rfl⟩
        replace H : (spec_AnPlain.l0 k y101 l0 (l0.length : Int) 0) = some r := by first | (rw [hy101]; with_reducible exact H) | (have H2_ := (Option.bind_some _ _).symm.trans H; rw [hy101]; with_reducible exact H2_) | (have H2_ := (Option.bind_some _ _).symm.trans H; with_reducible exact H2_) | with_reducible exact H | (rw [hy101]; exact H) | exact H
        have Ny101 := Aside0.mk hy101
        clear hy101
        have H' := Aside0.mk H
        clear H
        go_enter Try.func13, Try.ntmps13
        go_wp2_with (first | ((with_reducible refine gate_dst (N := 11) rfl ?_); refine Kd.R_make (Kd.int .u8) _ 5 rfl (N := 11) rfl 22 _ _ rfl (l0.length : Int) rfl rfl Try.underlying22 (.int .u8 0) 1 info5 rfl (by decide) (by omega) 0 (ok := fun _ => True) (okp := fun _ => True) rfl (fun _ hk => hk) trivial (of_decide_eq_true (by first | (with_reducible assumption) | assumption)) (Nat.le_trans (Nat.mul_le_mul_right _ (of_decide_eq_true (by first | (with_reducible assumption) | assumption) : (l0.length : Int).toNat ≤ 281474976710656)) (by omega)) (Below.refl _ _) (Nat.le_refl _) ?_; intro v102 w5 ho6 hb hg_ hnew_; clear hg_ hnew_; (first | rw [← Ny101.out] at ho6 | (simp only [Int.reduceToNat] at ho6; rw [← Ny101.out] at ho6)); have n0_ := Aside0.mk (Kd.R_lower ho6 (below_size (by repeat (first | (with_reducible first | exact HB.out | apply below_alloc | apply pw_below_drewN | apply below_drew1) | exact HB.out)))); have n1_ := Aside0.mk (below_step (by repeat (first | (with_reducible first | exact HB.out | apply below_alloc | apply pw_below_drewN | apply below_drew1) | exact HB.out)) hb); clear HB; have HO103 := n0_; have HB := n1_; clear n0_ n1_; clear hb ho6))
        go_loopg [14] k (fun kq v14 w' => ∃ (x3_1 : List Int) (x14_1 : Int), v14 = .int .i64 x14_1 ∧ Aside0 (spec_AnPlain.l0 kq x3_1 l0 (l0.length : Int) x14_1 = some r) ∧ Aside0 (kq ≤ k) ∧ Aside0 (Kd.R (Kd.int .u8) 5 w' w.heap.size (fun _ => True) v102 x3_1) ∧ Aside0 (Below w.heap.size w w'))
        case atStart => exact ⟨(y101), (0), (by first | rfl | (simp; done) | (simp [*]; done)), H', ⟨Nat.le_refl _⟩, ⟨by (with_reducible repeat (first | apply Kd.R_alloc | apply Kd.R_drewN | apply Kd.R_drew)); exact HO103.out⟩, ⟨by repeat (first | (with_reducible first | exact HB.out | apply below_alloc | apply pw_below_drewN | apply below_drew1) | exact HB.out)⟩⟩
        case round =>
          clear H'
          try clear c1
          try clear c2
          try clear c2b0
          try clear c2b1
          try clear c2b2
          try clear p2
          try clear c3
          try clear c3b0
          try clear c3b1
          try clear c4
          try clear c4b0
          try clear c4b1
          obtain ⟨x3_1, x14_1, rfl, HA, HK1, HO_3, HB⟩ := hrel
          cases gk with
          | zero => exact absurd HA.out (by simp [spec_AnPlain.l0])
          | succ k1 =>
            have H := HA.out
            clear HA
            simp only [spec_AnPlain.l0] at H
            by_cases c7 : x14_1 < (l0.length : Int)
            · rw [if_pos c7] at H
              have c7b0 : decide (x14_1 < (l0.length : Int)) = true := decide_eq_true c7
              clear c7
              by_cases c8 : 0 ≤ x14_1
              · rw [if_pos c8] at H
                have c8b0 : decide (0 ≤ x14_1) = true := decide_eq_true c8
                clear c8
                by_cases c9 : x14_1 < (l0.length : Int)
                · rw [if_pos c9] at H
                  have c9b0 : decide (x14_1 < (l0.length : Int)) = true := decide_eq_true c9
                  clear c9
                  obtain ⟨ji10, hji10⟩ : ∃ j_ : Int, (Int.tmod (wrap64 (rd l0 x14_1)) 63) = j_ := ⟨_, rfl⟩
                  replace H : (if 0 ≤ (ji10) then (if (ji10) < 63 then (if x14_1 < (x3_1.length : Int) then (spec_AnPlain.l0 k1 (x3_1.set (x14_1 : Int).toNat (bt (⟨#[97, 98, 99, 100, 101, 102, 103, 104, 105, 106, 107, 108, 109, 110, 111, 112, 113, 114, 115, 116, 117, 118, 119, 120, 121, 122, 65, 66, 67, 68, 69, 70, 71, 72, 73, 74, 75, 76, 77, 78, 79, 80, 81, 82, 83, 84, 85, 86, 87, 88, 89, 90, 48, 49, 50, 51, 52, 53, 54, 55, 56, 57, 95]⟩ : ByteArray) (ji10))) l0 (l0.length : Int) (wrap64 (x14_1 + 1))) else (none)) else (none)) else (none)) = some r := by first | (rw [hji10] at H; exact H) | (simp only [hji10] at H ⊢; exact H)
                  by_cases c11 : 0 ≤ (ji10)
                  · rw [if_pos c11] at H
                    have c11b0 : decide (0 ≤ (ji10)) = true := decide_eq_true c11
                    clear c11
                    by_cases c12 : (ji10) < 63
                    · rw [if_pos c12] at H
                      have c12b0 : decide ((ji10) < 63) = true := decide_eq_true c12
                      clear c12
                      by_cases c14 : x14_1 < (x3_1.length : Int)
                      · rw [if_pos c14] at H
                        have c14b0 : decide (x14_1 < (x3_1.length : Int)) = true := decide_eq_true c14
                        clear c14
                        obtain ⟨y105, hy105⟩ : ∃ y_ : List Int, y_ = (x3_1.set (x14_1 : Int).toNat (bt (⟨#[97, 98, 99, 100, 101, 102, 103, 104, 105, 106, 107, 108, 109, 110, 111, 112, 113, 114, 115, 116, 117, 118, 119, 120, 121, 122, 65, 66, 67, 68, 69, 70, 71, 72, 73, 74, 75, 76, 77, 78, 79, 80, 81, 82, 83, 84, 85, 86, 87, 88, 89, 90, 48, 49, 50, 51, 52, 53, 54, 55, 56, 57, 95]⟩ : ByteArray) (ji10))) := ⟨_, rfl⟩
                        replace H : (spec_AnPlain.l0 k1 y105 l0 (l0.length : Int) (wrap64 (x14_1 + 1))) = some r := by first | (rw [hy105]; with_reducible exact H) | (have H2_ := (Option.bind_some _ _).symm.trans H; rw [hy105]; with_reducible exact H2_) | (have H2_ := (Option.bind_some _ _).symm.trans H; with_reducible exact H2_) | with_reducible exact H | (rw [hy105]; exact H) | exact H
                        have Ny105 := Aside0.mk hy105
                        clear hy105
                        have H' := Aside0.mk H
                        clear H
                        have p104 : 0 ≤ (x14_1 : Int) := of_decide_eq_true (by first | (with_reducible assumption) | assumption)
                        have q104 : x14_1 < (l0.length : Int) := of_decide_eq_true (by first | (with_reducible assumption) | assumption)
                        obtain ⟨ad104, e104, hx104_0⟩ := Kd.at_int HR0.out x14_1 p104 q104
                        cases e104
                        replace hx104_0 := (HB.out.cell (World.block_lt_of_cell? w _ hx104_0)).trans hx104_0
                        replace p104 := eq_true p104
                        replace q104 := eq_true q104
                        have p13 : 0 ≤ ((ji10) : Int) := of_decide_eq_true (by first | (with_reducible assumption) | assumption)
                        have q13 : (ji10) < (63 : Int) := of_decide_eq_true (by first | (with_reducible assumption) | assumption)
                        have hx13 := bt_at (⟨#[97, 98, 99, 100, 101, 102, 103, 104, 105, 106, 107, 108, 109, 110, 111, 112, 113, 114, 115, 116, 117, 118, 119, 120, 121, 122, 65, 66, 67, 68, 69, 70, 71, 72, 73, 74, 75, 76, 77, 78, 79, 80, 81, 82, 83, 84, 85, 86, 87, 88, 89, 90, 48, 49, 50, 51, 52, 53, 54, 55, 56, 57, 95]⟩ : ByteArray) (ji10)
                        replace p13 := eq_true p13
                        replace q13 := eq_true q13
                        have p15 : 0 ≤ (x14_1 : Int) := of_decide_eq_true (by first | (with_reducible assumption) | assumption)
                        have q15 : (x14_1 : Int) < ((x3_1.length : Int) : Int) := of_decide_eq_true (by first | (with_reducible assumption) | assumption)
                        obtain ⟨go15, co15, eo15, gb15, gl15, cl15, HG15⟩ := Kd.R_form HO_3.out (by omega)
                        (first | cases eo15 | (injection eo15 with ea_ en_ ec_; (first | subst ea_ | (injection ea_ with ea_; subst ea_)); subst ec_; clear en_))
                        have GB15 := Aside0.mk gb15
                        have GG15 := Aside0.mk HG15
                        clear gb15 gl15 HG15
                        obtain ⟨hx15_0, hf15_0⟩ := Kd.R_celln 0 HO_3.out (x14_1 : Int) p15 q15
                        replace p15 := eq_true p15
                        replace q15 := eq_true q15
                        have HP16 := Kd.R_putg HO_3.out (x14_1 : Int) (bt (⟨#[97, 98, 99, 100, 101, 102, 103, 104, 105, 106, 107, 108, 109, 110, 111, 112, 113, 114, 115, 116, 117, 118, 119, 120, 121, 122, 65, 66, 67, 68, 69, 70, 71, 72, 73, 74, 75, 76, 77, 78, 79, 80, 81, 82, 83, 84, 85, 86, 87, 88, 89, 90, 48, 49, 50, 51, 52, 53, 54, 55, 56, 57, 95]⟩ : ByteArray) (ji10))
                        go_wp2_with (first | ((with_reducible refine gate_store (t := 5) (p := 25) rfl ?_); refine store_event (t := 5) (p := 25) (v := ?vo_w17) (w1 := (wr.setCell ⟨go15, (x14_1 : Int).toNat, none⟩ (.int .u8 (bt (⟨#[97, 98, 99, 100, 101, 102, 103, 104, 105, 106, 107, 108, 109, 110, 111, 112, 113, 114, 115, 116, 117, 118, 119, 120, 121, 122, 65, 66, 67, 68, 69, 70, 71, 72, 73, 74, 75, 76, 77, 78, 79, 80, 81, 82, 83, 84, 85, 86, 87, 88, 89, 90, 48, 49, 50, 51, 52, 53, 54, 55, 56, 57, 95]⟩ : ByteArray) (ji10))))) ?hg ?ho ?hn ?hr ?_; (case ho => rfl); (case hg => rfl); (case hn => rfl); (case hr => first | (go_simp; done) | (go_simp; rfl)); intro w17 hw; have hg : wr.grownBy w17 (some go15) := (by rw [hw]; exact HP16.2); have hp_ : Kd.R (Kd.int .u8) 5 w17 w.heap.size (fun _ => True) (.slice (some ⟨go15, 0, none⟩) x3_1.length co15) y105 := (by rw [hw, Ny105.out]; exact HP16.1); clear HP16; have n0_ := Aside0.mk (hp_); have n1_ := Aside0.mk ((by rw [hw]; exact below_set (HB.out) GB15.out : Below w.heap.size w w17)); clear HO_3; clear HB; have HO_3 := n0_; have HB := n1_; clear n0_ n1_; clear hg hw hp_))
                        go_roundg k1
                        case measure => have := HK1.out; omega
                        case rel => exact ⟨(y105), (wrap64 (x14_1 + 1)), (by first | rfl | (simp; done) | (simp [*]; done)), H', ⟨by have := HK1.out; omega⟩, ⟨by (with_reducible repeat (first | apply Kd.R_alloc | apply Kd.R_drewN | apply Kd.R_drew)); exact HO_3.out⟩, ⟨by repeat (first | (with_reducible first | exact HB.out | apply below_alloc | apply pw_below_drewN | apply below_drew1) | exact HB.out)⟩⟩
                      · rw [if_neg c14] at H
                        exact absurd H (by simp)
                    · rw [if_neg c12] at H
                      exact absurd H (by simp)
                  · rw [if_neg c11] at H
                    exact absurd H (by simp)
                · rw [if_neg c9] at H
                  exact absurd H (by simp)
              · rw [if_neg c8] at H
                exact absurd H (by simp)
            · rw [if_neg c7] at H
              have c7b0 : decide (x14_1 < (l0.length : Int)) = false := decide_eq_false c7
              clear c7
              obtain rfl := Option.some.inj H
              have hcv18 := own_string (P := Try.prog) Try.underlying22 Try.underlying5 Try.underlying9 (Kd.own_of_R HO_3.out)
              go_wp2
              go_ret
              exact ⟨by first | rfl | (simp [errW_none, errW_some] <;> rfl) | (simp [*, errW_none, errW_some] <;> rfl), by repeat (first | (with_reducible first | exact HB.out | apply below_alloc | apply pw_below_drewN | apply below_drew1) | exact HB.out)⟩
      · rw [if_neg c4] at H
        exact absurd H (by simp)
    · rw [if_neg c3] at H
      exact absurd H (by simp)

/-! ### laws_idCut: function 14 -/
def laws_idCut.f (l0 : List Int) : Option (List Int) := if 0 ≤ (mn (l0.length : Int) 1000) then (if (mn (l0.length : Int) 1000) ≤ (l0.length : Int) then (some (l0.take ((mn (l0.length : Int) 1000) : Int).toNat)) else (none)) else (none)
set_option maxHeartbeats 8000000 in
set_option maxRecDepth 100000 in
theorem laws_idCut.calls (P0_ : Nat → Prop) (u9000_ : Value) (l0 : List Int) (r : List Int) (w0 w : World) (hB : Below w0.heap.size w0 w) (ho0 : Kd.R (Kd.int .u8) 5 w w0.heap.size P0_ u9000_ l0) (h : laws_idCut.f l0 = some r) :
    Calls Try.prog 14 #[u9000_] w fun e w' => ∃ v0_ : Value, e = .returned (v0_) ∧ Kd.R (Kd.int .u8) 5 w' w0.heap.size (fun k_ => (P0_ k_ ∨ w.heap.size ≤ k_)) v0_ r ∧ Below w0.heap.size w0 w' ∧ Kept w w' (fun k_ => P0_ k_) := by
  have HO0 := Aside0.mk (show Kd.R (Kd.int .u8) 5 w w0.heap.size (fun k_ => (P0_ k_ ∨ w.heap.size ≤ k_)) u9000_ l0 from Kd.R_mono ho0 (fun k_ hk => (.inl hk)))
  have HK := Aside0.mk (Kept.refl w (fun k_ => P0_ k_))
  have HW0 := Aside0.mk hB.size
  have HB := Aside0.mk hB
  clear hB
  have H : (if 0 ≤ (mn (l0.length : Int) 1000) then (if (mn (l0.length : Int) 1000) ≤ (l0.length : Int) then (some (l0.take ((mn (l0.length : Int) 1000) : Int).toNat)) else (none)) else (none)) = some r := h
  clear h
  obtain ⟨ji2, hji2⟩ : ∃ j_ : Int, (mn (l0.length : Int) 1000) = j_ := ⟨_, rfl⟩
  replace H : (if 0 ≤ (ji2) then (if (ji2) ≤ (l0.length : Int) then (some (l0.take ((ji2) : Int).toNat)) else (none)) else (none)) = some r := by first | (rw [hji2] at H; exact H) | (simp only [hji2] at H ⊢; exact H)
  (try (have hji2h : ji2 ≤ 1000 := by (rw [← hji2]; unfold mn; (repeat' split) <;> omega)))
  (try (have hji2g : ji2 ≤ 64 := by omega))
  (try (have hji2l : 0 ≤ ji2 := by (rw [← hji2]; unfold mn; (repeat' split) <;> omega)))
  (try (have hji2m : 0 ≤ ji2 := by omega))
  have hji2_ : (if 1000 < (l0.length : Int) then 1000 else (l0.length : Int)) = ji2 := hji2
  by_cases c3 : 0 ≤ (ji2)
  · rw [if_pos c3] at H
    have c3b0 := eq_true c3
    have c3b1 : decide (0 ≤ (ji2)) = true := decide_eq_true c3
    clear c3
    by_cases c4 : (ji2) ≤ (l0.length : Int)
    · rw [if_pos c4] at H
      have c4b0 := eq_true c4
      have c4b1 : decide ((ji2) ≤ (l0.length : Int)) = true := decide_eq_true c4
      clear c4
      obtain ⟨y106, hy106⟩ : ∃ y_ : List Int, y_ = (l0.take ((ji2) : Int).toNat) := ⟨_, rfl⟩
      replace H : (some y106) = some r := by first | (rw [hy106]; with_reducible exact H) | (have H2_ := (Option.bind_some _ _).symm.trans H; rw [hy106]; with_reducible exact H2_) | (have H2_ := (Option.bind_some _ _).symm.trans H; with_reducible exact H2_) | with_reducible exact H | (rw [hy106]; exact H) | exact H
      have Ny106 := Aside0.mk hy106
      clear hy106
      obtain rfl := Option.some.inj H
      obtain ⟨Ao5, co5, eo5⟩ := Kd.R_slice HO0.out
      subst eo5
      have q6 : ((ji2) : Int) ≤ ((l0.length : Int) : Int) := of_decide_eq_true (by first | (with_reducible assumption) | assumption)
      obtain ⟨i06, hi06, _, hsz6, _⟩ := info_parts info5
      have hcut6 := cut_to (P := Try.prog) 22 5 .i64 Try.underlying22 hi06 Ao5 l0.length co5 (ji2) (of_decide_eq_true (by first | (with_reducible assumption) | assumption)) q6 (Kd.R_reads' HO0.out).2.1
      have hr6 := Kd.R_take (m := ((ji2) : Int).toNat) HO0.out (by omega)
      have hy6 : y106.length = ((ji2) : Int).toNat := (by rw [Ny106.out, List.length_take]; omega)
      rw [← Ny106.out] at hr6
      rw [← hy6] at hr6 hcut6
      clear hy6 hi06 hsz6 HO0
      have HO108 := Aside0.mk hr6
      clear hr6
      replace q6 := eq_true q6
      go_enter Try.func14, Try.ntmps14
      go_wp2
      go_ret
      exact ⟨_, by first | rfl | (simp [errW_none, errW_some] <;> rfl) | (simp only [← hji2]; first | rfl | (simp [errW_none, errW_some] <;> rfl)) | (simp [*, errW_none, errW_some] <;> rfl), by (with_reducible repeat (first | apply Kd.R_alloc | apply Kd.R_drewN | apply Kd.R_drew)); exact HO108.out, by repeat (first | (with_reducible first | exact HB.out | apply below_alloc | apply pw_below_drewN | apply below_drew1) | exact HB.out), by repeat (first | (with_reducible first | exact HK.out | apply Kept.alloc | apply Kept.drewN | apply Kept.drew) | exact HK.out)⟩
    · rw [if_neg c4] at H
      exact absurd H (by simp)
  · rw [if_neg c3] at H
    exact absurd H (by simp)

/-! ### laws_idPuny: function 16 -/
mutual
def laws_idPuny.j0 : Nat → List Int → ByteArray → Option (ByteArray)
  | 0, _, _ => none
  | k + 1, x1, x5 => (laws_idCut.f x1).bind fun t113 => (laws_idPuny.l0 k x5 t113 (t113.length : Int) 0)
def laws_idPuny.l0 : Nat → ByteArray → List Int → Int → Int → Option (ByteArray)
  | 0, _, _, _, _ => none
  | k + 1, x5, x16, x17, x18 => if x18 < x17 then (if 0 ≤ x18 then (if x18 < (x16.length : Int) then (if 0 ≤ (Int.tmod (rd x16 x18) 36) then (if (Int.tmod (rd x16 x18) 36) ≤ (((Int.tmod (rd x16 x18) 36) + 1) % 256) then (if (((Int.tmod (rd x16 x18) 36) + 1) % 256) ≤ 36 then (if x5.size + ((⟨#[97, 98, 99, 100, 101, 102, 103, 104, 105, 106, 107, 108, 109, 110, 111, 112, 113, 114, 115, 116, 117, 118, 119, 120, 121, 122, 48, 49, 50, 51, 52, 53, 54, 55, 56, 57]⟩ : ByteArray).extract ((Int.tmod (rd x16 x18) 36) : Int).toNat ((((Int.tmod (rd x16 x18) 36) + 1) % 256) : Int).toNat).size ≤ 9223372036854775807 then (laws_idPuny.l0 k (x5 ++ ((⟨#[97, 98, 99, 100, 101, 102, 103, 104, 105, 106, 107, 108, 109, 110, 111, 112, 113, 114, 115, 116, 117, 118, 119, 120, 121, 122, 48, 49, 50, 51, 52, 53, 54, 55, 56, 57]⟩ : ByteArray).extract ((Int.tmod (rd x16 x18) 36) : Int).toNat ((((Int.tmod (rd x16 x18) 36) + 1) % 256) : Int).toNat)) x16 x17 (wrap64 (x18 + 1))) else (none)) else (none)) else (none)) else (none)) else (none)) else (none)) else (some x5)
end
def laws_idPuny.f (k : Nat) (l0 : List Int) (l1 : List Int) : Option (ByteArray) := if (l0.length : Int) > 0 then ((laws_idCut.f l0).bind fun t109 => ((spec_AnPlain.f k t109).bind fun t112 => (if t112.size + 1 ≤ 9223372036854775807 then (laws_idPuny.j0 k l1 (t112 ++ (⟨#[95]⟩ : ByteArray))) else (none)))) else (laws_idPuny.j0 k l1 (⟨#[]⟩ : ByteArray))
theorem laws_idPuny.mono_l : ∀ k, (∀ y0 y1, LeO (laws_idPuny.j0 k y0 y1) (laws_idPuny.j0 (k + 1) y0 y1)) ∧ (∀ y0 y1 y2 y3, LeO (laws_idPuny.l0 k y0 y1 y2 y3) (laws_idPuny.l0 (k + 1) y0 y1 y2 y3))
  | 0 => ⟨fun _ _ r h => by simp [laws_idPuny.j0] at h, fun _ _ _ _ r h => by simp [laws_idPuny.l0] at h⟩
  | k + 1 => by
    obtain ⟨ih0, ih1⟩ := laws_idPuny.mono_l k
    refine ⟨?_, ?_⟩
    · intro y0 y1
      unfold laws_idPuny.j0
      repeat' first
      | (with_reducible exact ih0 _ _)
      | (with_reducible exact ih1 _ _ _ _)
      | (with_reducible exact spec_AnPlain.mono _ _)
      | (with_reducible exact LeO.refl _)
      | (with_reducible exact LeO.none _)
      | (with_reducible refine LeO.ite ?_ ?_)
      | (with_reducible refine LeO.bind ?_ (fun _ => ?_))
      | exact ih0 _ _
      | exact ih1 _ _ _ _
      | exact spec_AnPlain.mono _ _
      | exact LeO.none _
      | refine LeO.ite ?_ ?_
      | refine LeO.bind ?_ (fun _ => ?_)
    · intro y0 y1 y2 y3
      unfold laws_idPuny.l0
      repeat' first
      | (with_reducible exact ih0 _ _)
      | (with_reducible exact ih1 _ _ _ _)
      | (with_reducible exact spec_AnPlain.mono _ _)
      | (with_reducible exact LeO.refl _)
      | (with_reducible exact LeO.none _)
      | (with_reducible refine LeO.ite ?_ ?_)
      | (with_reducible refine LeO.bind ?_ (fun _ => ?_))
      | exact ih0 _ _
      | exact ih1 _ _ _ _
      | exact spec_AnPlain.mono _ _
      | exact LeO.none _
      | refine LeO.ite ?_ ?_
      | refine LeO.bind ?_ (fun _ => ?_)
theorem laws_idPuny.mono : ∀ a0 a1 k, LeO (laws_idPuny.f k a0 a1) (laws_idPuny.f (k + 1) a0 a1) := by
  intro a0 a1 k
  obtain ⟨ih0, ih1⟩ := laws_idPuny.mono_l k
  unfold laws_idPuny.f
  repeat' first
      | (with_reducible exact ih0 _ _)
      | (with_reducible exact ih1 _ _ _ _)
      | (with_reducible exact spec_AnPlain.mono _ _)
      | (with_reducible exact LeO.refl _)
      | (with_reducible exact LeO.none _)
      | (with_reducible refine LeO.ite ?_ ?_)
      | (with_reducible refine LeO.bind ?_ (fun _ => ?_))
      | exact ih0 _ _
      | exact ih1 _ _ _ _
      | exact spec_AnPlain.mono _ _
      | exact LeO.none _
      | refine LeO.ite ?_ ?_
      | refine LeO.bind ?_ (fun _ => ?_)
set_option maxHeartbeats 8000000 in
set_option maxRecDepth 100000 in
theorem laws_idPuny.calls (k : Nat) (P0_ : Nat → Prop) (u9000_ : Value) (l0 : List Int) (P1_ : Nat → Prop) (u9001_ : Value) (l1 : List Int) (r : ByteArray) (w0 w : World) (hB : Below w0.heap.size w0 w) (ho0 : Kd.R (Kd.int .u8) 5 w w0.heap.size P0_ u9000_ l0) (hp0_1 : ∀ k_, P0_ k_ → ¬ P1_ k_) (ho1 : Kd.R (Kd.int .u8) 5 w w0.heap.size P1_ u9001_ l1) (hp1_0 : ∀ k_, P1_ k_ → ¬ P0_ k_) (h : laws_idPuny.f k l0 l1 = some r) :
    Calls Try.prog 16 #[u9000_, u9001_] w fun e w' => e = .returned (.string r) ∧ Below w0.heap.size w0 w' ∧ Kept w w' (fun k_ => P0_ k_ ∨ P1_ k_) := by
  have HO0 := Aside0.mk (show Kd.R (Kd.int .u8) 5 w w0.heap.size (fun k_ => ((P0_ k_ ∨ P1_ k_) ∨ w.heap.size ≤ k_) ∧ some k_ ≠ (u9001_ : Value).ownBlock) u9000_ l0 from Kd.R_mono ho0 (fun k_ hk => ⟨(.inl (.inl hk)), fun e_ => hp0_1 k_ hk (ho1.1 k_ e_.symm)⟩))
  have HO1 := Aside0.mk (show Kd.R (Kd.int .u8) 5 w w0.heap.size (fun k_ => ((P0_ k_ ∨ P1_ k_) ∨ w.heap.size ≤ k_) ∧ some k_ ≠ (u9000_ : Value).ownBlock) u9001_ l1 from Kd.R_mono ho1 (fun k_ hk => ⟨(.inl (.inr hk)), fun e_ => hp1_0 k_ hk (ho0.1 k_ e_.symm)⟩))
  have HK := Aside0.mk (Kept.refl w (fun k_ => P0_ k_ ∨ P1_ k_))
  have HW0 := Aside0.mk hB.size
  have HB := Aside0.mk hB
  clear hB
  have H : (if (l0.length : Int) > 0 then ((laws_idCut.f l0).bind fun t109 => ((spec_AnPlain.f k t109).bind fun t112 => (if t112.size + 1 ≤ 9223372036854775807 then (laws_idPuny.j0 k l1 (t112 ++ (⟨#[95]⟩ : ByteArray))) else (none)))) else (laws_idPuny.j0 k l1 (⟨#[]⟩ : ByteArray))) = some r := h
  clear h
  have HC3 := Aside0.mk H
  clear H
  obtain ⟨Ao4, co4, eo4⟩ := Kd.R_slice HO0.out
  subst eo4
  go_enter Try.func16, Try.ntmps16
  go_upto_if 10 with (fail)
  go_cut [5] (fun v5 wc => ∃ (kq : Nat) (x5_2 : ByteArray), v5 = .string x5_2 ∧ Aside0 (laws_idPuny.j0 kq l1 x5_2 = some r) ∧ Aside0 (kq ≤ k) ∧ Aside0 (Kd.R (Kd.int .u8) 5 wc w0.heap.size (fun k_ => ((P0_ k_ ∨ P1_ k_) ∨ w.heap.size ≤ k_)) u9001_ l1) ∧ Aside0 (Kept w wc (fun k_ => P0_ k_ ∨ P1_ k_)) ∧ Aside0 (Below w0.heap.size w0 wc))
  case first =>
    have H := HC3.out
    clear HC3
    by_cases c5 : (l0.length : Int) > 0
    · rw [if_pos c5] at H
      have c5b0 : decide (0 < (l0.length : Int)) = true := decide_eq_true c5
      have c5b1 : decide (0 < l0.length) = true := decide_eq_true (by omega)
      clear c5
      (first | rw [c5b0] | (simp only [i64_w, i32_w]; rw [c5b0]) | rw [c5b1] | skip)
      replace H := Option.bind_eq_some_iff.mp H
      obtain ⟨t109, A60, H⟩ := H
      replace H : ((spec_AnPlain.f k t109).bind fun t112 => (if t112.size + 1 ≤ 9223372036854775807 then (laws_idPuny.j0 k l1 (t112 ++ (⟨#[95]⟩ : ByteArray))) else (none))) = some r := H
      have A6 := Aside0.mk A60
      clear A60
      replace H := Option.bind_eq_some_iff.mp H
      obtain ⟨t112, A70, H⟩ := H
      replace H : (if t112.size + 1 ≤ 9223372036854775807 then (laws_idPuny.j0 k l1 (t112 ++ (⟨#[95]⟩ : ByteArray))) else (none)) = some r := H
      have A7 := Aside0.mk A70
      clear A70
      by_cases c8 : t112.size + 1 ≤ 9223372036854775807
      · rw [if_pos c8] at H
        have c8b0 := eq_true c8
        have c8b1 : decide (t112.size + 1 ≤ 9223372036854775807) = true := decide_eq_true c8
        try have c8b2 : (9223372036854775807 < t112.size + 1) = False := eq_false (Nat.not_lt.2 c8)
        have H' := Aside0.mk H
        clear H
        go_wp2_with (first | ((with_reducible refine gate_callee (f := 14) rfl ?_); refine goesL_ (some 12) rfl rfl Try.func14 (by kernel_rfl) rfl #[.slice Ao4 l0.length co4] rfl (by (try simp only [List.map_toArray, List.map_cons, List.map_nil]); first | done | rfl | (simp only [List.length_drop, List.length_take]; rfl)) ?_; (with_reducible refine (laws_idCut.calls (fun k_ => some k_ = (.slice Ao4 l0.length co4 : Value).ownBlock) (.slice Ao4 l0.length co4) l0 t109 w0 _ ?side1 ?side2 A6.out).mono ?_); (case side1 => repeat (first | (with_reducible first | exact HB.out | apply below_alloc | apply pw_below_drewN | apply below_drew1) | exact HB.out)); (case side2 => exact Kd.R_tight rfl HO0.out); rintro e w9 ⟨v110, rfl, ho0, hb, hkp⟩; refine ⟨_, rfl, ?_⟩; have n0_ := Aside0.mk (Kd.R_mono (ok' := fun k_ => ((P0_ k_ ∨ P1_ k_) ∨ w.heap.size ≤ k_) ∧ some k_ ≠ (v110 : Value).ownBlock) (Kd.R_keptB (HO1.out) hkp (fun k_ hk_ hs_ => (hk_.2) hs_)) (fun k_ hk_ => ⟨hk_.1.1, fun e_ => Or.elim (ho0.1 k_ e_.symm) (fun hs_ => hk_.2.1 hs_) (fun hn_ => Nat.not_le.2 hk_.2.2 hn_)⟩)); have n1_ := Aside0.mk (Kd.R_mono (ok' := fun k_ => ((P0_ k_ ∨ P1_ k_) ∨ w.heap.size ≤ k_) ∧ some k_ ≠ (u9001_ : Value).ownBlock) ho0 (fun k_ hk_ => ⟨Or.elim hk_ (fun hs_ => (HO0.out.1 k_ (hs_).symm).1) (fun hn_ => (.inr (Nat.le_trans (by first | exact HK.out.1 | exact (show Kept w _ (fun k_ => P0_ k_ ∨ P1_ k_) from by repeat (first | (with_reducible first | exact HK.out | apply Kept.alloc | apply Kept.drewN | apply Kept.drew) | exact HK.out)).1) hn_))), Or.elim hk_ (fun hs_ => fun e_ => (((HO1.out).1 k_ e_.symm).2) hs_) (fun hn_ => (Kd.fresh' (Kd.R_lt (by (with_reducible repeat (first | apply Kd.R_alloc | apply Kd.R_drewN | apply Kd.R_drew)); exact HO1.out)) k_ hn_))⟩)); have n2_ := Aside0.mk (Kept.then_ (S := (fun k_ => P0_ k_ ∨ P1_ k_)) (by repeat (first | (with_reducible first | exact HK.out | apply Kept.alloc | apply Kept.drewN | apply Kept.drew) | exact HK.out)) hkp (fun k_ hs_ => (fun e_ => (HO0.out.1 k_ e_.symm).1) hs_)); have n3_ := Aside0.mk (hb); clear HO1; clear HK; clear HB; clear HO0; have HO1 := n0_; have HO111 := n1_; have HK := n2_; have HB := n3_; clear n0_ n1_ n2_ n3_; (try clear hb); (try clear hkp); (try clear ho0); obtain ⟨Ao10, co10, eo10⟩ := Kd.R_slice HO111.out; subst eo10) | ((with_reducible refine gate_callee (f := 13) rfl ?_); refine goesL_ (some 13) rfl rfl Try.func13 (by kernel_rfl) rfl #[.slice Ao10 t109.length co10] rfl (by (try simp only [List.map_toArray, List.map_cons, List.map_nil]); first | done | rfl | (simp only [List.length_drop, List.length_take]; rfl)) ?_; (with_reducible refine (spec_AnPlain.calls k _ _ t109 t112 _ ?side1 ?side2 A7.out).mono ?_); (case side1 => repeat (first | exact (Kd.R_reads' HO111.out).2.2 | (with_reducible refine Kd.C_alloc ?_ _) | (with_reducible refine Kd.C_drewN ?_ _) | (with_reducible refine Kd.C_drew ?_))); (case side2 => exact (Kd.R_reads' HO111.out).2.1); rintro e w11 ⟨rfl, hb⟩; refine ⟨_, rfl, ?_⟩; have n0_ := Aside0.mk (Kd.R_below (by (with_reducible repeat (first | apply Kd.R_alloc | apply Kd.R_drewN | apply Kd.R_drew)); exact HO1.out) hb); have n1_ := Aside0.mk (Kd.R_below (by (with_reducible repeat (first | apply Kd.R_alloc | apply Kd.R_drewN | apply Kd.R_drew)); exact HO111.out) hb); have n2_ := Aside0.mk (Kept.below (S := (fun k_ => P0_ k_ ∨ P1_ k_)) (by repeat (first | (with_reducible first | exact HK.out | apply Kept.alloc | apply Kept.drewN | apply Kept.drew) | exact HK.out)) hb); have n3_ := Aside0.mk (below_step (by repeat (first | (with_reducible first | exact HB.out | apply below_alloc | apply pw_below_drewN | apply below_drew1) | exact HB.out)) hb); clear HO1; clear HO111; clear HK; clear HB; have HO1 := n0_; have HO111 := n1_; have HK := n2_; have HB := n3_; clear n0_ n1_ n2_ n3_; (try clear hb); (try clear hb2); (try clear hk); (try clear hi)))
        go_meet
        case rel => exact ⟨_, (t112 ++ (⟨#[95]⟩ : ByteArray)), (by first | rfl | (simp; done) | (simp [*]; done)), H', ⟨by first | omega | exact Nat.le_refl _⟩, ⟨by (with_reducible repeat (first | apply Kd.R_alloc | apply Kd.R_drewN | apply Kd.R_drew)); exact Kd.R_mono HO1.out (fun _ hk => hk.1)⟩, ⟨by repeat (first | (with_reducible first | exact HK.out | apply Kept.alloc | apply Kept.drewN | apply Kept.drew) | exact HK.out)⟩, ⟨by repeat (first | (with_reducible first | exact HB.out | apply below_alloc | apply pw_below_drewN | apply below_drew1) | exact HB.out)⟩⟩
      · rw [if_neg c8] at H
        exact absurd H (by simp)
    · rw [if_neg c5] at H
      have c5b0 : decide (0 < (l0.length : Int)) = false := decide_eq_false c5
      have c5b1 : decide (0 < l0.length) = false := decide_eq_false (by omega)
      clear c5
      (first | rw [c5b0] | (simp only [i64_w, i32_w]; rw [c5b0]) | rw [c5b1] | skip)
      have H' := Aside0.mk H
      clear H
      go_wp2
      go_meet
      case rel => exact ⟨_, ((⟨#[]⟩ : ByteArray)), (by first | rfl | (simp; done) | (simp [*]; done)), H', ⟨by first | omega | exact Nat.le_refl _⟩, ⟨by (with_reducible repeat (first | apply Kd.R_alloc | apply Kd.R_drewN | apply Kd.R_drew)); exact Kd.R_mono HO1.out (fun _ hk => hk.1)⟩, ⟨by repeat (first | (with_reducible first | exact HK.out | apply Kept.alloc | apply Kept.drewN | apply Kept.drew) | exact HK.out)⟩, ⟨by repeat (first | (with_reducible first | exact HB.out | apply below_alloc | apply pw_below_drewN | apply below_drew1) | exact HB.out)⟩⟩
  case rest =>
    clear HC3
    try clear c1
    try clear p1
    try clear p2
    try clear c5
    try clear c5b0
    try clear c5b1
    try clear c8
    try clear c8b0
    try clear c8b1
    try clear c8b2
    obtain ⟨kq, x5_2, rfl, HA, HJ2, HO_1, HK, HB⟩ := hcut
    cases kq with
    | zero => exact absurd HA.out (by simp [laws_idPuny.j0])
    | succ kj2 =>
      have H := HA.out
      clear HA
      simp only [laws_idPuny.j0] at H
      replace H := Option.bind_eq_some_iff.mp H
      obtain ⟨t113, A120, H⟩ := H
      replace H : (laws_idPuny.l0 kj2 x5_2 t113 (t113.length : Int) 0) = some r := H
      have A12 := Aside0.mk A120
      clear A120
      have H' := Aside0.mk H
      clear H
      obtain ⟨Ao13, co13, eo13⟩ := Kd.R_slice HO_1.out
      subst eo13
      go_wp2_with (first | ((with_reducible refine gate_callee (f := 14) rfl ?_); refine goesL_ (some 16) rfl rfl Try.func14 (by kernel_rfl) rfl #[.slice Ao13 l1.length co13] rfl (by (try simp only [List.map_toArray, List.map_cons, List.map_nil]); first | done | rfl | (simp only [List.length_drop, List.length_take]; rfl)) ?_; (with_reducible refine (laws_idCut.calls (fun k_ => some k_ = (.slice Ao13 l1.length co13 : Value).ownBlock) (.slice Ao13 l1.length co13) l1 t113 w0 _ ?side1 ?side2 A12.out).mono ?_); (case side1 => repeat (first | (with_reducible first | exact HB.out | apply below_alloc | apply pw_below_drewN | apply below_drew1) | exact HB.out)); (case side2 => exact Kd.R_tight rfl HO_1.out); rintro e w14 ⟨v114, rfl, ho0, hb, hkp⟩; refine ⟨_, rfl, ?_⟩; have n0_ := Aside0.mk (Kd.R_mono (ok' := fun k_ => ((P0_ k_ ∨ P1_ k_) ∨ w.heap.size ≤ k_)) ho0 (fun k_ hk_ => Or.elim hk_ (fun hs_ => (HO_1.out.1 k_ (hs_).symm)) (fun hn_ => (.inr (Nat.le_trans (by first | exact HK.out.1 | exact (show Kept w _ (fun k_ => P0_ k_ ∨ P1_ k_) from by repeat (first | (with_reducible first | exact HK.out | apply Kept.alloc | apply Kept.drewN | apply Kept.drew) | exact HK.out)).1) hn_))))); have n1_ := Aside0.mk (Kept.then_ (S := (fun k_ => P0_ k_ ∨ P1_ k_)) (by repeat (first | (with_reducible first | exact HK.out | apply Kept.alloc | apply Kept.drewN | apply Kept.drew) | exact HK.out)) hkp (fun k_ hs_ => (fun e_ => (HO_1.out.1 k_ e_.symm)) hs_)); have n2_ := Aside0.mk (hb); clear HK; clear HB; clear HO_1; have HO115 := n0_; have HK := n1_; have HB := n2_; clear n0_ n1_ n2_; (try clear hb); (try clear hkp); (try clear ho0); obtain ⟨Ao15, co15, eo15⟩ := Kd.R_slice HO115.out; subst eo15))
      go_loopg [5, 18] kj2 (fun kq v5 v18 w' => ∃ (x5_2 : ByteArray) (x18_2 : Int), v5 = .string x5_2 ∧ v18 = .int .i64 x18_2 ∧ Aside0 (laws_idPuny.l0 kq x5_2 t113 (t113.length : Int) x18_2 = some r) ∧ Aside0 (kq ≤ kj2) ∧ Aside0 (Kd.R (Kd.int .u8) 5 w' w0.heap.size (fun k_ => ((P0_ k_ ∨ P1_ k_) ∨ w.heap.size ≤ k_)) (.slice Ao15 t113.length co15) t113) ∧ Aside0 (Kept w w' (fun k_ => P0_ k_ ∨ P1_ k_)) ∧ Aside0 (Below w0.heap.size w0 w'))
      case atStart => exact ⟨(x5_2), (0), (by first | rfl | (simp; done) | (simp [*]; done)), (by first | rfl | (simp; done) | (simp [*]; done)), H', ⟨Nat.le_refl _⟩, ⟨by (with_reducible repeat (first | apply Kd.R_alloc | apply Kd.R_drewN | apply Kd.R_drew)); exact HO115.out⟩, ⟨by repeat (first | (with_reducible first | exact HK.out | apply Kept.alloc | apply Kept.drewN | apply Kept.drew) | exact HK.out)⟩, ⟨by repeat (first | (with_reducible first | exact HB.out | apply below_alloc | apply pw_below_drewN | apply below_drew1) | exact HB.out)⟩⟩
      case round =>
        clear H'
        try clear c1
        try clear p1
        try clear p2
        try clear c5
        try clear c5b0
        try clear c5b1
        try clear c8
        try clear c8b0
        try clear c8b1
        try clear c8b2
        try clear c13
        try clear c14
        try clear p1
        try clear p2
        obtain ⟨x5_2, x18_2, rfl, rfl, HA, HK2, HO_16, HK, HB⟩ := hrel
        cases gk with
        | zero => exact absurd HA.out (by simp [laws_idPuny.l0])
        | succ k2 =>
          have H := HA.out
          clear HA
          simp only [laws_idPuny.l0] at H
          by_cases c16 : x18_2 < (t113.length : Int)
          · rw [if_pos c16] at H
            have c16b0 : decide (x18_2 < (t113.length : Int)) = true := decide_eq_true c16
            clear c16
            by_cases c17 : 0 ≤ x18_2
            · rw [if_pos c17] at H
              have c17b0 : decide (0 ≤ x18_2) = true := decide_eq_true c17
              clear c17
              by_cases c18 : x18_2 < (t113.length : Int)
              · rw [if_pos c18] at H
                have c18b0 : decide (x18_2 < (t113.length : Int)) = true := decide_eq_true c18
                clear c18
                obtain ⟨ji19, hji19⟩ : ∃ j_ : Int, (Int.tmod (rd t113 x18_2) 36) = j_ := ⟨_, rfl⟩
                replace H : (if 0 ≤ (ji19) then (if (ji19) ≤ (((ji19) + 1) % 256) then (if (((ji19) + 1) % 256) ≤ 36 then (if x5_2.size + ((⟨#[97, 98, 99, 100, 101, 102, 103, 104, 105, 106, 107, 108, 109, 110, 111, 112, 113, 114, 115, 116, 117, 118, 119, 120, 121, 122, 48, 49, 50, 51, 52, 53, 54, 55, 56, 57]⟩ : ByteArray).extract ((ji19) : Int).toNat ((((ji19) + 1) % 256) : Int).toNat).size ≤ 9223372036854775807 then (laws_idPuny.l0 k2 (x5_2 ++ ((⟨#[97, 98, 99, 100, 101, 102, 103, 104, 105, 106, 107, 108, 109, 110, 111, 112, 113, 114, 115, 116, 117, 118, 119, 120, 121, 122, 48, 49, 50, 51, 52, 53, 54, 55, 56, 57]⟩ : ByteArray).extract ((ji19) : Int).toNat ((((ji19) + 1) % 256) : Int).toNat)) t113 (t113.length : Int) (wrap64 (x18_2 + 1))) else (none)) else (none)) else (none)) else (none)) = some r := by first | (rw [hji19] at H; exact H) | (simp only [hji19] at H ⊢; exact H)
                by_cases c20 : 0 ≤ (ji19)
                · rw [if_pos c20] at H
                  have c20b0 := eq_true c20
                  have c20b1 : decide (0 ≤ (ji19)) = true := decide_eq_true c20
                  clear c20
                  by_cases c21 : (ji19) ≤ (((ji19) + 1) % 256)
                  · rw [if_pos c21] at H
                    have c21b0 := eq_true c21
                    have c21b1 : decide ((ji19) ≤ (((ji19) + 1) % 256)) = true := decide_eq_true c21
                    by_cases c22 : (((ji19) + 1) % 256) ≤ 36
                    · rw [if_pos c22] at H
                      have c22b0 := eq_true c22
                      have c22b1 : decide ((((ji19) + 1) % 256) ≤ 36) = true := decide_eq_true c22
                      by_cases c23 : x5_2.size + ((⟨#[97, 98, 99, 100, 101, 102, 103, 104, 105, 106, 107, 108, 109, 110, 111, 112, 113, 114, 115, 116, 117, 118, 119, 120, 121, 122, 48, 49, 50, 51, 52, 53, 54, 55, 56, 57]⟩ : ByteArray).extract ((ji19) : Int).toNat ((((ji19) + 1) % 256) : Int).toNat).size ≤ 9223372036854775807
                      · rw [if_pos c23] at H
                        have c23b0 := eq_true c23
                        have c23b1 : decide (x5_2.size + ((⟨#[97, 98, 99, 100, 101, 102, 103, 104, 105, 106, 107, 108, 109, 110, 111, 112, 113, 114, 115, 116, 117, 118, 119, 120, 121, 122, 48, 49, 50, 51, 52, 53, 54, 55, 56, 57]⟩ : ByteArray).extract ((ji19) : Int).toNat ((((ji19) + 1) % 256) : Int).toNat).size ≤ 9223372036854775807) = true := decide_eq_true c23
                        try have c23b2 : (9223372036854775807 < x5_2.size + ((⟨#[97, 98, 99, 100, 101, 102, 103, 104, 105, 106, 107, 108, 109, 110, 111, 112, 113, 114, 115, 116, 117, 118, 119, 120, 121, 122, 48, 49, 50, 51, 52, 53, 54, 55, 56, 57]⟩ : ByteArray).extract ((ji19) : Int).toNat ((((ji19) + 1) % 256) : Int).toNat).size) = False := eq_false (Nat.not_lt.2 c23)
                        try (have c23q := c23; rw [ByteArray.size_extract, Nat.min_eq_left (by show _ ≤ Array.size _; simp only [List.size_toArray, List.length_cons, List.length_nil]; omega)] at c23q; have c23b3 := eq_false (Nat.not_lt.2 c23q); clear c23q)
                        have H' := Aside0.mk H
                        clear H
                        have p116 : 0 ≤ (x18_2 : Int) := of_decide_eq_true (by first | (with_reducible assumption) | assumption)
                        have q116 : x18_2 < (t113.length : Int) := of_decide_eq_true (by first | (with_reducible assumption) | assumption)
                        obtain ⟨ad116, e116, hx116_0⟩ := Kd.at_int (Kd.R_reads' HO_16.out).2.2 x18_2 p116 q116
                        cases e116
                        replace p116 := eq_true p116
                        replace q116 := eq_true q116
                        go_wp2
                        go_roundg k2
                        case measure => have := HJ2.out; have := HK2.out; omega
                        case rel => exact ⟨(x5_2 ++ ((⟨#[97, 98, 99, 100, 101, 102, 103, 104, 105, 106, 107, 108, 109, 110, 111, 112, 113, 114, 115, 116, 117, 118, 119, 120, 121, 122, 48, 49, 50, 51, 52, 53, 54, 55, 56, 57]⟩ : ByteArray).extract ((ji19) : Int).toNat ((((ji19) + 1) % 256) : Int).toNat)), (wrap64 (x18_2 + 1)), (by first | rfl | (simp; done) | (simp only [← hji19] <;> (first | rfl | simp)) | (simp [*]; done)), (by first | rfl | (simp; done) | (simp [*]; done)), H', ⟨by have := HJ2.out; have := HK2.out; omega⟩, ⟨by (with_reducible repeat (first | apply Kd.R_alloc | apply Kd.R_drewN | apply Kd.R_drew)); exact HO_16.out⟩, ⟨by repeat (first | (with_reducible first | exact HK.out | apply Kept.alloc | apply Kept.drewN | apply Kept.drew) | exact HK.out)⟩, ⟨by repeat (first | (with_reducible first | exact HB.out | apply below_alloc | apply pw_below_drewN | apply below_drew1) | exact HB.out)⟩⟩
                      · rw [if_neg c23] at H
                        exact absurd H (by simp)
                    · rw [if_neg c22] at H
                      exact absurd H (by simp)
                  · rw [if_neg c21] at H
                    exact absurd H (by simp)
                · rw [if_neg c20] at H
                  exact absurd H (by simp)
              · rw [if_neg c18] at H
                exact absurd H (by simp)
            · rw [if_neg c17] at H
              exact absurd H (by simp)
          · rw [if_neg c16] at H
            have c16b0 : decide (x18_2 < (t113.length : Int)) = false := decide_eq_false c16
            clear c16
            obtain rfl := Option.some.inj H
            go_wp2
            go_ret
            exact ⟨by first | rfl | (simp [errW_none, errW_some] <;> rfl) | (simp [*, errW_none, errW_some] <;> rfl), by repeat (first | (with_reducible first | exact HB.out | apply below_alloc | apply pw_below_drewN | apply below_drew1) | exact HB.out), by repeat (first | (with_reducible first | exact HK.out | apply Kept.alloc | apply Kept.drewN | apply Kept.drew) | exact HK.out)⟩

/-! ### laws_doorPuny: function 17 -/
def laws_doorPuny.f (a0 : ByteArray) (a1 : ByteArray) : Option (Bool) := (impl_Punycode.f a0).bind fun bt117 => (if bt117.2 = true then (some (bt117.1.toList == a1.toList)) else (some false))
set_option maxHeartbeats 8000000 in
set_option maxRecDepth 100000 in
theorem laws_doorPuny.calls (a0 : ByteArray) (a1 : ByteArray) (r : Bool) (w : World) (h : laws_doorPuny.f a0 a1 = some r) :
    Calls Try.prog 17 #[.string a0, .string a1] w fun e w' => e = .returned (.bool r) ∧ Below w.heap.size w w' := by
  have HB := Aside0.mk (Below.refl w.heap.size w)
  have H : ((impl_Punycode.f a0).bind fun bt117 => (if bt117.2 = true then (some (bt117.1.toList == a1.toList)) else (some false))) = some r := h
  clear h
  replace H := Option.bind_eq_some_iff.mp H
  obtain ⟨⟨t117, t118⟩, A30, H⟩ := H
  replace H : (if t118 = true then (some (t117.toList == a1.toList)) else (some false)) = some r := H
  have A3 := Aside0.mk A30
  clear A30
  by_cases c4 : t118 = true
  · subst c4
    have H1 : (some (t117.toList == a1.toList)) = some r := by rw [if_pos rfl] at H; exact H
    clear H
    have H := H1
    clear H1
    obtain rfl := Option.some.inj H
    go_enter Try.func17, Try.ntmps17
    go_wp2_with (first | ((with_reducible refine gate_callee (f := 15) rfl ?_); refine goesL_ (some 9) rfl rfl Try.func15 (by kernel_rfl) rfl #[.string a0] rfl (by (try simp only [List.map_toArray, List.map_cons, List.map_nil]); first | done | rfl | (simp only [List.length_drop, List.length_take]; rfl)) ?_; (with_reducible refine (impl_Punycode.calls a0 t117 true _ A3.out).mono ?_); rintro e w5 ⟨rfl, hb⟩; refine ⟨_, rfl, ?_⟩; have n0_ := Aside0.mk (below_step (by repeat (first | (with_reducible first | exact HB.out | apply below_alloc | apply pw_below_drewN | apply below_drew1) | exact HB.out)) hb); clear HB; have HB := n0_; clear n0_; (try clear hb); (try clear hb2); (try clear hk); (try clear hi)))
    go_ret
    exact ⟨by first | rfl | (simp [errW_none, errW_some] <;> rfl) | (simp [*, errW_none, errW_some] <;> rfl), by repeat (first | (with_reducible first | exact HB.out | apply below_alloc | apply pw_below_drewN | apply below_drew1) | exact HB.out)⟩
  · replace c4 := Bool.eq_false_iff.mpr c4
    subst c4
    have H1 : (some false) = some r := by rw [if_neg (show ¬ (false = true) by decide)] at H; exact H
    clear H
    have H := H1
    clear H1
    obtain rfl := Option.some.inj H
    go_enter Try.func17, Try.ntmps17
    go_wp2_with (first | ((with_reducible refine gate_callee (f := 15) rfl ?_); refine goesL_ (some 9) rfl rfl Try.func15 (by kernel_rfl) rfl #[.string a0] rfl (by (try simp only [List.map_toArray, List.map_cons, List.map_nil]); first | done | rfl | (simp only [List.length_drop, List.length_take]; rfl)) ?_; (with_reducible refine (impl_Punycode.calls a0 t117 false _ A3.out).mono ?_); rintro e w6 ⟨rfl, hb⟩; refine ⟨_, rfl, ?_⟩; have n0_ := Aside0.mk (below_step (by repeat (first | (with_reducible first | exact HB.out | apply below_alloc | apply pw_below_drewN | apply below_drew1) | exact HB.out)) hb); clear HB; have HB := n0_; clear n0_; (try clear hb); (try clear hb2); (try clear hk); (try clear hi)))
    go_ret
    exact ⟨by first | rfl | (simp [errW_none, errW_some] <;> rfl) | (simp [*, errW_none, errW_some] <;> rfl), by repeat (first | (with_reducible first | exact HB.out | apply below_alloc | apply pw_below_drewN | apply below_drew1) | exact HB.out)⟩

/-! ### laws_FnPunycodeKeeps: function 6 -/
mutual
def laws_FnPunycodeKeeps.j0 : Nat → List Int → List Int → Bool → Option (Bool)
  | 0, _, _, _ => none
  | k + 1, x0, x1, x17 => if x17 = true then (some true) else ((some (([1] : List Int) : List Int)).bind fun y119 => (if y119.length + x0.length < 140737488355328 then ((laws_idCut.f (y119 ++ x0)).bind fun t125 => ((spec_AnPlain.f k t125).bind fun t128 => (if t128.size + 1 ≤ 9223372036854775807 then ((some (([1] : List Int) : List Int)).bind fun y129 => (if y129.length + x1.length < 140737488355328 then ((laws_idPuny.f k ([] : List Int) (y129 ++ x1)).bind fun t135 => (if (t128 ++ (⟨#[95]⟩ : ByteArray)).size + t135.size ≤ 9223372036854775807 then ((impl_Punycode.f ((t128 ++ (⟨#[95]⟩ : ByteArray)) ++ t135)).bind fun bt136 => (laws_FnPunycodeKeeps.l0 k t128 bt136.1 bt136.2 (⟨#[]⟩ : ByteArray) (bt136.1.size : Int) 0)) else (none))) else (none))) else (none)))) else (none)))
def laws_FnPunycodeKeeps.l0 : Nat → ByteArray → ByteArray → Bool → ByteArray → Int → Int → Option (Bool)
  | 0, _, _, _, _, _, _ => none
  | k + 1, x5, x6, x7, x8, x35, x36 => if x36 < x35 then (if 0 ≤ x36 then (if x36 < (x6.size : Int) then (if (bt x6 x36) < 128 then (if x36 ≤ (wrap64 (x36 + 1)) then (if (wrap64 (x36 + 1)) ≤ (x6.size : Int) then (if x8.size + (x6.extract (x36 : Int).toNat ((wrap64 (x36 + 1)) : Int).toNat).size ≤ 9223372036854775807 then (laws_FnPunycodeKeeps.l0 k x5 x6 x7 (x8 ++ (x6.extract (x36 : Int).toNat ((wrap64 (x36 + 1)) : Int).toNat)) x35 (wrap64 (x36 + 1))) else (none)) else (none)) else (none)) else (laws_FnPunycodeKeeps.l0 k x5 x6 x7 x8 x35 (wrap64 (x36 + 1)))) else (none)) else (none)) else (if x7 = true then (if x8.toList = x5.toList then ((laws_doorPuny.f (⟨#[103, 100, 101, 108, 95, 53, 113, 97]⟩ : ByteArray) (⟨#[103, 195, 182, 100, 101, 108]⟩ : ByteArray)).bind fun t138 => (some t138)) else (some false)) else ((laws_doorPuny.f (⟨#[103, 100, 101, 108, 95, 53, 113, 97]⟩ : ByteArray) (⟨#[103, 195, 182, 100, 101, 108]⟩ : ByteArray)).bind fun t139 => (some t139)))
end
def laws_FnPunycodeKeeps.f (k : Nat) (l0 : List Int) (l1 : List Int) : Option (Bool) := if (l0.length : Int) > 2147483647 then (laws_FnPunycodeKeeps.j0 k l0 l1 true) else (laws_FnPunycodeKeeps.j0 k l0 l1 (decide ((l1.length : Int) > 2147483647)))
theorem laws_FnPunycodeKeeps.mono_l : ∀ k, (∀ y0 y1 y2, LeO (laws_FnPunycodeKeeps.j0 k y0 y1 y2) (laws_FnPunycodeKeeps.j0 (k + 1) y0 y1 y2)) ∧ (∀ y0 y1 y2 y3 y4 y5, LeO (laws_FnPunycodeKeeps.l0 k y0 y1 y2 y3 y4 y5) (laws_FnPunycodeKeeps.l0 (k + 1) y0 y1 y2 y3 y4 y5))
  | 0 => ⟨fun _ _ _ r h => by simp [laws_FnPunycodeKeeps.j0] at h, fun _ _ _ _ _ _ r h => by simp [laws_FnPunycodeKeeps.l0] at h⟩
  | k + 1 => by
    obtain ⟨ih0, ih1⟩ := laws_FnPunycodeKeeps.mono_l k
    refine ⟨?_, ?_⟩
    · intro y0 y1 y2
      unfold laws_FnPunycodeKeeps.j0
      repeat' first
      | (with_reducible exact ih0 _ _ _)
      | (with_reducible exact ih1 _ _ _ _ _ _)
      | (with_reducible exact laws_idPuny.mono _ _ _)
      | (with_reducible exact spec_AnPlain.mono _ _)
      | (with_reducible exact LeO.refl _)
      | (with_reducible exact LeO.none _)
      | (with_reducible refine LeO.ite ?_ ?_)
      | (with_reducible refine LeO.bind ?_ (fun _ => ?_))
      | exact ih0 _ _ _
      | exact ih1 _ _ _ _ _ _
      | exact laws_idPuny.mono _ _ _
      | exact spec_AnPlain.mono _ _
      | exact LeO.none _
      | refine LeO.ite ?_ ?_
      | refine LeO.bind ?_ (fun _ => ?_)
    · intro y0 y1 y2 y3 y4 y5
      unfold laws_FnPunycodeKeeps.l0
      repeat' first
      | (with_reducible exact ih0 _ _ _)
      | (with_reducible exact ih1 _ _ _ _ _ _)
      | (with_reducible exact laws_idPuny.mono _ _ _)
      | (with_reducible exact spec_AnPlain.mono _ _)
      | (with_reducible exact LeO.refl _)
      | (with_reducible exact LeO.none _)
      | (with_reducible refine LeO.ite ?_ ?_)
      | (with_reducible refine LeO.bind ?_ (fun _ => ?_))
      | exact ih0 _ _ _
      | exact ih1 _ _ _ _ _ _
      | exact laws_idPuny.mono _ _ _
      | exact spec_AnPlain.mono _ _
      | exact LeO.none _
      | refine LeO.ite ?_ ?_
      | refine LeO.bind ?_ (fun _ => ?_)
theorem laws_FnPunycodeKeeps.mono : ∀ a0 a1 k, LeO (laws_FnPunycodeKeeps.f k a0 a1) (laws_FnPunycodeKeeps.f (k + 1) a0 a1) := by
  intro a0 a1 k
  obtain ⟨ih0, ih1⟩ := laws_FnPunycodeKeeps.mono_l k
  unfold laws_FnPunycodeKeeps.f
  repeat' first
      | (with_reducible exact ih0 _ _ _)
      | (with_reducible exact ih1 _ _ _ _ _ _)
      | (with_reducible exact laws_idPuny.mono _ _ _)
      | (with_reducible exact spec_AnPlain.mono _ _)
      | (with_reducible exact LeO.refl _)
      | (with_reducible exact LeO.none _)
      | (with_reducible refine LeO.ite ?_ ?_)
      | (with_reducible refine LeO.bind ?_ (fun _ => ?_))
      | exact ih0 _ _ _
      | exact ih1 _ _ _ _ _ _
      | exact laws_idPuny.mono _ _ _
      | exact spec_AnPlain.mono _ _
      | exact LeO.none _
      | refine LeO.ite ?_ ?_
      | refine LeO.bind ?_ (fun _ => ?_)
set_option maxHeartbeats 8000000 in
set_option maxRecDepth 100000 in
theorem laws_FnPunycodeKeeps.calls (k : Nat) (A0 : Option Addr) (c0 : Nat) (l0 : List Int) (A1 : Option Addr) (c1 : Nat) (l1 : List Int) (r : Bool) (w : World) (hr0 : Kd.C (Kd.int .u8) w A0 l0.length l0) (hc0 : l0.length ≤ c0) (hr1 : Kd.C (Kd.int .u8) w A1 l1.length l1) (hc1 : l1.length ≤ c1) (h : laws_FnPunycodeKeeps.f k l0 l1 = some r) :
    Calls Try.prog 6 #[.slice A0 l0.length c0, .slice A1 l1.length c1] w fun e w' => e = .returned (.bool r) ∧ Below w.heap.size w w' := by
  have HR0 := Aside0.mk hr0
  have HC0 := Aside0.mk hc0
  clear hr0 hc0
  have HR1 := Aside0.mk hr1
  have HC1 := Aside0.mk hc1
  clear hr1 hc1
  have HB := Aside0.mk (Below.refl w.heap.size w)
  have H : (if (l0.length : Int) > 2147483647 then (laws_FnPunycodeKeeps.j0 k l0 l1 true) else (laws_FnPunycodeKeeps.j0 k l0 l1 (decide ((l1.length : Int) > 2147483647)))) = some r := h
  clear h
  have HC3 := Aside0.mk H
  clear H
  go_enter Try.func6, Try.ntmps6
  go_upto_region 1 with (fail)
  go_cut [17] (fun v17 wc => ∃ (kq : Nat) (x17_2 : Bool), v17 = .bool x17_2 ∧ Aside0 (laws_FnPunycodeKeeps.j0 kq l0 l1 x17_2 = some r) ∧ Aside0 (kq ≤ k) ∧ Aside0 (Below w.heap.size w wc))
  case first =>
    have H := HC3.out
    clear HC3
    by_cases c4 : (l0.length : Int) > 2147483647
    · rw [if_pos c4] at H
      have c4b0 : decide (2147483647 < (l0.length : Int)) = true := decide_eq_true c4
      have c4b1 : decide (2147483647 < l0.length) = true := decide_eq_true (by omega)
      clear c4
      (first | rw [c4b0] | (simp only [i64_w, i32_w]; rw [c4b0]) | rw [c4b1] | skip)
      have H' := Aside0.mk H
      clear H
      go_wp2
      go_meet
      case rel => exact ⟨_, (true), (by first | rfl | (simp; done) | (simp [*]; done)), H', ⟨by first | omega | exact Nat.le_refl _⟩, ⟨by repeat (first | (with_reducible first | exact HB.out | apply below_alloc | apply pw_below_drewN | apply below_drew1) | exact HB.out)⟩⟩
    · rw [if_neg c4] at H
      have c4b0 : decide (2147483647 < (l0.length : Int)) = false := decide_eq_false c4
      have c4b1 : decide (2147483647 < l0.length) = false := decide_eq_false (by omega)
      clear c4
      (first | rw [c4b0] | (simp only [i64_w, i32_w]; rw [c4b0]) | rw [c4b1] | skip)
      have H' := Aside0.mk H
      clear H
      go_wp2
      go_meet
      case rel => exact ⟨_, (decide ((l1.length : Int) > 2147483647)), (by first | rfl | (simp; done) | (simp [*]; done)), H', ⟨by first | omega | exact Nat.le_refl _⟩, ⟨by repeat (first | (with_reducible first | exact HB.out | apply below_alloc | apply pw_below_drewN | apply below_drew1) | exact HB.out)⟩⟩
  case rest =>
    clear HC3
    try clear c1
    try clear p2
    try clear c4
    try clear c4b0
    try clear c4b1
    obtain ⟨kq, x17_2, rfl, HA, HJ2, HB⟩ := hcut
    cases kq with
    | zero => exact absurd HA.out (by simp [laws_FnPunycodeKeeps.j0])
    | succ kj2 =>
      have H := HA.out
      clear HA
      simp only [laws_FnPunycodeKeeps.j0] at H
      by_cases c5 : x17_2 = true
      · subst c5
        have H1 : (some true) = some r := by rw [if_pos rfl] at H; exact H
        clear H
        have H := H1
        clear H1
        obtain rfl := Option.some.inj H
        go_wp2
        go_ret
        exact ⟨by first | rfl | (simp [errW_none, errW_some] <;> rfl) | (simp [*, errW_none, errW_some] <;> rfl), by repeat (first | (with_reducible first | exact HB.out | apply below_alloc | apply pw_below_drewN | apply below_drew1) | exact HB.out)⟩
      · replace c5 := Bool.eq_false_iff.mpr c5
        subst c5
        have H1 : ((some (([1] : List Int) : List Int)).bind fun y119 => (if y119.length + l0.length < 140737488355328 then ((laws_idCut.f (y119 ++ l0)).bind fun t125 => ((spec_AnPlain.f kj2 t125).bind fun t128 => (if t128.size + 1 ≤ 9223372036854775807 then ((some (([1] : List Int) : List Int)).bind fun y129 => (if y129.length + l1.length < 140737488355328 then ((laws_idPuny.f kj2 ([] : List Int) (y129 ++ l1)).bind fun t135 => (if (t128 ++ (⟨#[95]⟩ : ByteArray)).size + t135.size ≤ 9223372036854775807 then ((impl_Punycode.f ((t128 ++ (⟨#[95]⟩ : ByteArray)) ++ t135)).bind fun bt136 => (laws_FnPunycodeKeeps.l0 kj2 t128 bt136.1 bt136.2 (⟨#[]⟩ : ByteArray) (bt136.1.size : Int) 0)) else (none))) else (none))) else (none)))) else (none))) = some r := by rw [if_neg (show ¬ (false = true) by decide)] at H; exact H
        clear H
        have H := H1
        clear H1
        obtain ⟨y119, hy119⟩ : ∃ y_ : List Int, y_ = (([1] : List Int)) := ⟨_, rfl⟩
        replace H : (if y119.length + l0.length < 140737488355328 then ((laws_idCut.f (y119 ++ l0)).bind fun t125 => ((spec_AnPlain.f kj2 t125).bind fun t128 => (if t128.size + 1 ≤ 9223372036854775807 then ((some (([1] : List Int) : List Int)).bind fun y129 => (if y129.length + l1.length < 140737488355328 then ((laws_idPuny.f kj2 ([] : List Int) (y129 ++ l1)).bind fun t135 => (if (t128 ++ (⟨#[95]⟩ : ByteArray)).size + t135.size ≤ 9223372036854775807 then ((impl_Punycode.f ((t128 ++ (⟨#[95]⟩ : ByteArray)) ++ t135)).bind fun bt136 => (laws_FnPunycodeKeeps.l0 kj2 t128 bt136.1 bt136.2 (⟨#[]⟩ : ByteArray) (bt136.1.size : Int) 0)) else (none))) else (none))) else (none)))) else (none)) = some r := by first | (rw [hy119]; with_reducible exact H) | (have H2_ := (Option.bind_some _ _).symm.trans H; rw [hy119]; with_reducible exact H2_) | (have H2_ := (Option.bind_some _ _).symm.trans H; with_reducible exact H2_) | with_reducible exact H | (rw [hy119]; exact H) | exact H
        have Ny119 := Aside0.mk hy119
        clear hy119
        by_cases c6 : y119.length + l0.length < 140737488355328
        · rw [if_pos c6] at H
          have LMc6 := Aside0.mk c6
          clear c6
          obtain ⟨y122, hy122⟩ : ∃ y_ : List Int, y_ = (y119 ++ l0) := ⟨_, rfl⟩
          replace H : ((laws_idCut.f y122).bind fun t125 => ((spec_AnPlain.f kj2 t125).bind fun t128 => (if t128.size + 1 ≤ 9223372036854775807 then ((some (([1] : List Int) : List Int)).bind fun y129 => (if y129.length + l1.length < 140737488355328 then ((laws_idPuny.f kj2 ([] : List Int) (y129 ++ l1)).bind fun t135 => (if (t128 ++ (⟨#[95]⟩ : ByteArray)).size + t135.size ≤ 9223372036854775807 then ((impl_Punycode.f ((t128 ++ (⟨#[95]⟩ : ByteArray)) ++ t135)).bind fun bt136 => (laws_FnPunycodeKeeps.l0 kj2 t128 bt136.1 bt136.2 (⟨#[]⟩ : ByteArray) (bt136.1.size : Int) 0)) else (none))) else (none))) else (none)))) = some r := by first | (rw [hy122]; with_reducible exact H) | (have H2_ := (Option.bind_some _ _).symm.trans H; rw [hy122]; with_reducible exact H2_) | (have H2_ := (Option.bind_some _ _).symm.trans H; with_reducible exact H2_) | with_reducible exact H | (rw [hy122]; exact H) | exact H
          have Ny122 := Aside0.mk hy122
          clear hy122
          replace H := Option.bind_eq_some_iff.mp H
          obtain ⟨t125, A70, H⟩ := H
          replace H : ((spec_AnPlain.f kj2 t125).bind fun t128 => (if t128.size + 1 ≤ 9223372036854775807 then ((some (([1] : List Int) : List Int)).bind fun y129 => (if y129.length + l1.length < 140737488355328 then ((laws_idPuny.f kj2 ([] : List Int) (y129 ++ l1)).bind fun t135 => (if (t128 ++ (⟨#[95]⟩ : ByteArray)).size + t135.size ≤ 9223372036854775807 then ((impl_Punycode.f ((t128 ++ (⟨#[95]⟩ : ByteArray)) ++ t135)).bind fun bt136 => (laws_FnPunycodeKeeps.l0 kj2 t128 bt136.1 bt136.2 (⟨#[]⟩ : ByteArray) (bt136.1.size : Int) 0)) else (none))) else (none))) else (none))) = some r := H
          have A7 := Aside0.mk A70
          clear A70
          replace H := Option.bind_eq_some_iff.mp H
          obtain ⟨t128, A80, H⟩ := H
          replace H : (if t128.size + 1 ≤ 9223372036854775807 then ((some (([1] : List Int) : List Int)).bind fun y129 => (if y129.length + l1.length < 140737488355328 then ((laws_idPuny.f kj2 ([] : List Int) (y129 ++ l1)).bind fun t135 => (if (t128 ++ (⟨#[95]⟩ : ByteArray)).size + t135.size ≤ 9223372036854775807 then ((impl_Punycode.f ((t128 ++ (⟨#[95]⟩ : ByteArray)) ++ t135)).bind fun bt136 => (laws_FnPunycodeKeeps.l0 kj2 t128 bt136.1 bt136.2 (⟨#[]⟩ : ByteArray) (bt136.1.size : Int) 0)) else (none))) else (none))) else (none)) = some r := H
          have A8 := Aside0.mk A80
          clear A80
          by_cases c9 : t128.size + 1 ≤ 9223372036854775807
          · rw [if_pos c9] at H
            have c9b0 := eq_true c9
            have c9b1 : decide (t128.size + 1 ≤ 9223372036854775807) = true := decide_eq_true c9
            try have c9b2 : (9223372036854775807 < t128.size + 1) = False := eq_false (Nat.not_lt.2 c9)
            obtain ⟨y129, hy129⟩ : ∃ y_ : List Int, y_ = (([1] : List Int)) := ⟨_, rfl⟩
            replace H : (if y129.length + l1.length < 140737488355328 then ((laws_idPuny.f kj2 ([] : List Int) (y129 ++ l1)).bind fun t135 => (if (t128 ++ (⟨#[95]⟩ : ByteArray)).size + t135.size ≤ 9223372036854775807 then ((impl_Punycode.f ((t128 ++ (⟨#[95]⟩ : ByteArray)) ++ t135)).bind fun bt136 => (laws_FnPunycodeKeeps.l0 kj2 t128 bt136.1 bt136.2 (⟨#[]⟩ : ByteArray) (bt136.1.size : Int) 0)) else (none))) else (none)) = some r := by first | (rw [hy129]; with_reducible exact H) | (have H2_ := (Option.bind_some _ _).symm.trans H; rw [hy129]; with_reducible exact H2_) | (have H2_ := (Option.bind_some _ _).symm.trans H; with_reducible exact H2_) | with_reducible exact H | (rw [hy129]; exact H) | exact H
            have Ny129 := Aside0.mk hy129
            clear hy129
            by_cases c10 : y129.length + l1.length < 140737488355328
            · rw [if_pos c10] at H
              have LMc10 := Aside0.mk c10
              clear c10
              obtain ⟨y132, hy132⟩ : ∃ y_ : List Int, y_ = (y129 ++ l1) := ⟨_, rfl⟩
              replace H : ((laws_idPuny.f kj2 ([] : List Int) y132).bind fun t135 => (if (t128 ++ (⟨#[95]⟩ : ByteArray)).size + t135.size ≤ 9223372036854775807 then ((impl_Punycode.f ((t128 ++ (⟨#[95]⟩ : ByteArray)) ++ t135)).bind fun bt136 => (laws_FnPunycodeKeeps.l0 kj2 t128 bt136.1 bt136.2 (⟨#[]⟩ : ByteArray) (bt136.1.size : Int) 0)) else (none))) = some r := by first | (rw [hy132]; with_reducible exact H) | (have H2_ := (Option.bind_some _ _).symm.trans H; rw [hy132]; with_reducible exact H2_) | (have H2_ := (Option.bind_some _ _).symm.trans H; with_reducible exact H2_) | with_reducible exact H | (rw [hy132]; exact H) | exact H
              have Ny132 := Aside0.mk hy132
              clear hy132
              replace H := Option.bind_eq_some_iff.mp H
              obtain ⟨t135, A110, H⟩ := H
              replace H : (if (t128 ++ (⟨#[95]⟩ : ByteArray)).size + t135.size ≤ 9223372036854775807 then ((impl_Punycode.f ((t128 ++ (⟨#[95]⟩ : ByteArray)) ++ t135)).bind fun bt136 => (laws_FnPunycodeKeeps.l0 kj2 t128 bt136.1 bt136.2 (⟨#[]⟩ : ByteArray) (bt136.1.size : Int) 0)) else (none)) = some r := H
              have A11 := Aside0.mk A110
              clear A110
              by_cases c12 : (t128 ++ (⟨#[95]⟩ : ByteArray)).size + t135.size ≤ 9223372036854775807
              · rw [if_pos c12] at H
                have c12b0 := eq_true c12
                have c12b1 : decide ((t128 ++ (⟨#[95]⟩ : ByteArray)).size + t135.size ≤ 9223372036854775807) = true := decide_eq_true c12
                try have c12b2 : (9223372036854775807 < (t128 ++ (⟨#[95]⟩ : ByteArray)).size + t135.size) = False := eq_false (Nat.not_lt.2 c12)
                try have c12b4 : (9223372036854775807 < t128.size + 1 + t135.size) = False := eq_false (by have h_ := c12; repeat rw [ByteArray.size_append] at h_; exact Nat.not_lt.2 h_)
                replace H := Option.bind_eq_some_iff.mp H
                obtain ⟨⟨t136, t137⟩, A130, H⟩ := H
                replace H : (laws_FnPunycodeKeeps.l0 kj2 t128 t136 t137 (⟨#[]⟩ : ByteArray) (t136.size : Int) 0) = some r := H
                have A13 := Aside0.mk A130
                clear A130
                have H' := Aside0.mk H
                clear H
                go_wp2_with (first | ((with_reducible refine gate_dst (N := 18) rfl ?_); (try (refine gate_guard (by rfl) ?_; dsimp only)); refine Kd.R_lit (Kd.int .u8) _ 5 ?hg (N := 18) ?hd (xs := ([1] : List Int)) (inner := [.int .u8 1]) (ok := fun _ => True) (okp := fun _ => True) ?hr ?hp (fun _ hk => hk) trivial (Below.refl _ _) (Nat.le_refl _) (by simp) ?_; (case hd => rfl); (case hg => rfl); (case hr => first | (go_simp; done) | (go_simp; rfl)); (case hp => exact (Reps.one (show Kd.M (Kd.int .u8) _ _ _ 1 [.int .u8 1] from rfl) (Reps.none _ _))); intro v120 w14 ho15 hb hg_ hnew_; clear hg_ hnew_; (first | rw [← Ny119.out] at ho15 | (simp only [Int.reduceToNat] at ho15; rw [← Ny119.out] at ho15)); have n0_ := Aside0.mk (Kd.R_lower ho15 (below_size (by repeat (first | (with_reducible first | exact HB.out | apply below_alloc | apply pw_below_drewN | apply below_drew1) | exact HB.out)))); have n1_ := Aside0.mk (below_step (by repeat (first | (with_reducible first | exact HB.out | apply below_alloc | apply pw_below_drewN | apply below_drew1) | exact HB.out)) hb); clear HB; have HO121 := n0_; have HB := n1_; clear n0_ n1_; clear hb ho15) | ((with_reducible refine gate_builtin (b := .append) (xs := #[.tmp 18, .tmp 19]) rfl ?_); (try (refine gate_guard (by rfl) ?_; dsimp only)); at_builtin; refine Kd.R_append_rows (Kd.int .u8) (w0 := w) w.heap.size rfl (.tmp 18) (.tmp 19) 22 5 (.int .u8 0) 1 rfl Try.underlying22 info5 rfl (by decide) (by omega) v120 y119 l0 _ _ _ (fun _ => True) (fun _ => False) rfl rfl ?aO ?aR (fun _ _ h => h) (fun _ h => h.elim) ?aF ?aB ?aS ?aL ?_; (case aR => repeat (first | exact (Kd.C_below HR0.out HB.out) | (with_reducible refine Kd.C_alloc ?_ _) | (with_reducible refine Kd.C_drewN ?_ _) | (with_reducible refine Kd.C_drew ?_))); (case aB => exact (by repeat (first | (with_reducible first | exact HB.out | apply below_alloc | apply pw_below_drewN | apply below_drew1) | exact HB.out))); (case aF => exact (fun _ _ => trivial)); (case aO => exact (by (with_reducible repeat (first | apply Kd.R_alloc | apply Kd.R_drewN | apply Kd.R_drew)); exact HO121.out)); (case aS => exact (below_size (by repeat (first | (with_reducible first | exact HB.out | apply below_alloc | apply pw_below_drewN | apply below_drew1) | exact HB.out)))); (case aL => have := LMc6.out; omega); intro v123 w16 ho hb hg hat; rw [← Ny122.out] at ho; have n0_ := Aside0.mk (hb); have n1_ := Aside0.mk (ho); clear HB; clear HO121; have HB := n0_; have HO124 := n1_; clear n0_ n1_; clear ho hb hg hat; obtain ⟨Ao17, co17, eo17⟩ := Kd.R_slice HO124.out; subst eo17) | ((with_reducible refine gate_callee (f := 14) rfl ?_); refine goesL_ (some 21) rfl rfl Try.func14 (by kernel_rfl) rfl #[.slice Ao17 y122.length co17] rfl (by (try simp only [List.map_toArray, List.map_cons, List.map_nil]); first | done | rfl | (simp only [List.length_drop, List.length_take]; rfl)) ?_; (with_reducible refine (laws_idCut.calls (fun k_ => some k_ = (.slice Ao17 y122.length co17 : Value).ownBlock) (.slice Ao17 y122.length co17) y122 t125 w _ ?side1 ?side2 A7.out).mono ?_); (case side1 => repeat (first | (with_reducible first | exact HB.out | apply below_alloc | apply pw_below_drewN | apply below_drew1) | exact HB.out)); (case side2 => exact Kd.R_tight rfl HO124.out); rintro e w18 ⟨v126, rfl, ho0, hb, hkp⟩; refine ⟨_, rfl, ?_⟩; have n0_ := Aside0.mk (Kd.R_mono (ok' := fun k_ => True) ho0 (fun k_ hk_ => trivial)); have n1_ := Aside0.mk (hb); clear HB; clear HO124; have HO127 := n0_; have HB := n1_; clear n0_ n1_; (try clear hb); (try clear hkp); (try clear ho0); obtain ⟨Ao19, co19, eo19⟩ := Kd.R_slice HO127.out; subst eo19) | ((with_reducible refine gate_callee (f := 13) rfl ?_); refine goesL_ (some 22) rfl rfl Try.func13 (by kernel_rfl) rfl #[.slice Ao19 t125.length co19] rfl (by (try simp only [List.map_toArray, List.map_cons, List.map_nil]); first | done | rfl | (simp only [List.length_drop, List.length_take]; rfl)) ?_; (with_reducible refine (spec_AnPlain.calls kj2 _ _ t125 t128 _ ?side1 ?side2 A8.out).mono ?_); (case side1 => repeat (first | exact (Kd.R_reads' HO127.out).2.2 | (with_reducible refine Kd.C_alloc ?_ _) | (with_reducible refine Kd.C_drewN ?_ _) | (with_reducible refine Kd.C_drew ?_))); (case side2 => exact (Kd.R_reads' HO127.out).2.1); rintro e w20 ⟨rfl, hb⟩; refine ⟨_, rfl, ?_⟩; have n0_ := Aside0.mk (Kd.R_below (by (with_reducible repeat (first | apply Kd.R_alloc | apply Kd.R_drewN | apply Kd.R_drew)); exact HO127.out) hb); have n1_ := Aside0.mk (below_step (by repeat (first | (with_reducible first | exact HB.out | apply below_alloc | apply pw_below_drewN | apply below_drew1) | exact HB.out)) hb); clear HO127; clear HB; have HO127 := n0_; have HB := n1_; clear n0_ n1_; (try clear hb); (try clear hb2); (try clear hk); (try clear hi)) | ((with_reducible refine gate_dst (N := 26) rfl ?_); (try (refine gate_guard (by rfl) ?_; dsimp only)); refine Kd.R_lit (Kd.int .u8) _ 5 ?hg (N := 26) ?hd (xs := ([1] : List Int)) (inner := [.int .u8 1]) (ok := fun _ => True) (okp := fun _ => True) ?hr ?hp (fun _ hk => hk) trivial (Below.refl _ _) (Nat.le_refl _) (by simp) ?_; (case hd => rfl); (case hg => rfl); (case hr => first | (go_simp; done) | (go_simp; rfl)); (case hp => exact (Reps.one (show Kd.M (Kd.int .u8) _ _ _ 1 [.int .u8 1] from rfl) (Reps.none _ _))); intro v130 w21 ho22 hb hg_ hnew_; clear hg_ hnew_; (first | rw [← Ny129.out] at ho22 | (simp only [Int.reduceToNat] at ho22; rw [← Ny129.out] at ho22)); have n0_ := Aside0.mk (Kd.R_elder' (by (with_reducible repeat (first | apply Kd.R_alloc | apply Kd.R_drewN | apply Kd.R_drew)); exact HO127.out) (Kd.R_base ho22) hb); have n1_ := Aside0.mk (Kd.R_lower (Kd.R_new' ho22 (Kd.R_lt (by (with_reducible repeat (first | apply Kd.R_alloc | apply Kd.R_drewN | apply Kd.R_drew)); exact HO127.out))) (below_size (by repeat (first | (with_reducible first | exact HB.out | apply below_alloc | apply pw_below_drewN | apply below_drew1) | exact HB.out)))); have n2_ := Aside0.mk (below_step (by repeat (first | (with_reducible first | exact HB.out | apply below_alloc | apply pw_below_drewN | apply below_drew1) | exact HB.out)) hb); clear HO127; clear HB; have HO127 := n0_; have HO131 := n1_; have HB := n2_; clear n0_ n1_ n2_; clear hb ho22) | ((with_reducible refine gate_builtin (b := .append) (xs := #[.tmp 26, .tmp 27]) rfl ?_); (try (refine gate_guard (by rfl) ?_; dsimp only)); at_builtin; refine Kd.R_append_rows (Kd.int .u8) (w0 := w) w.heap.size rfl (.tmp 26) (.tmp 27) 22 5 (.int .u8 0) 1 rfl Try.underlying22 info5 rfl (by decide) (by omega) v130 y129 l1 _ _ _ (fun k_ => some k_ ≠ (.slice Ao19 t125.length co19 : Value).ownBlock) (fun _ => False) rfl rfl ?aO ?aR (fun _ _ h => h) (fun _ h => h.elim) ?aF ?aB ?aS ?aL ?_; (case aR => repeat (first | exact (Kd.C_below HR1.out HB.out) | (with_reducible refine Kd.C_alloc ?_ _) | (with_reducible refine Kd.C_drewN ?_ _) | (with_reducible refine Kd.C_drew ?_))); (case aB => exact (by repeat (first | (with_reducible first | exact HB.out | apply below_alloc | apply pw_below_drewN | apply below_drew1) | exact HB.out))); (case aF => exact (fun k_ hk => Kd.fresh' (Kd.R_lt (by (with_reducible repeat (first | apply Kd.R_alloc | apply Kd.R_drewN | apply Kd.R_drew)); exact HO127.out)) k_ hk)); (case aO => exact (by (with_reducible repeat (first | apply Kd.R_alloc | apply Kd.R_drewN | apply Kd.R_drew)); exact Kd.R_mono HO131.out (fun _ hk => hk.2))); (case aS => exact (below_size (by repeat (first | (with_reducible first | exact HB.out | apply below_alloc | apply pw_below_drewN | apply below_drew1) | exact HB.out)))); (case aL => have := LMc10.out; omega); intro v133 w23 ho hb hg hat; rw [← Ny132.out] at ho; have n0_ := Aside0.mk (Kd.R_after (ok := (fun _ => True)) (by (with_reducible repeat (first | apply Kd.R_alloc | apply Kd.R_drewN | apply Kd.R_drew)); exact HO127.out) hg hat); have n1_ := Aside0.mk (hb); have n2_ := Aside0.mk (ho); clear HO127; clear HB; clear HO131; have HO127 := n0_; have HB := n1_; have HO134 := n2_; clear n0_ n1_ n2_; clear ho hb hg hat; obtain ⟨Ao24, co24, eo24⟩ := Kd.R_slice HO134.out; subst eo24) | ((with_reducible refine gate_callee (f := 16) rfl ?_); refine goesL_ (some 29) rfl rfl Try.func16 (by kernel_rfl) rfl #[.slice none 0 0, .slice Ao24 y132.length co24] rfl (by (try simp only [List.map_toArray, List.map_cons, List.map_nil]); first | done | rfl | (simp only [List.length_drop, List.length_take]; rfl)) ?_; (refine (laws_idPuny.calls kj2 (fun k_ => some k_ = (.slice none 0 0 : Value).ownBlock) (.slice none 0 0) ([] : List Int) (fun k_ => some k_ = (.slice Ao24 y132.length co24 : Value).ownBlock) (.slice Ao24 y132.length co24) y132 t135 w _ ?side1 ?side2 ?side3 ?side4 ?side5 A11.out).mono ?_); (case side1 => repeat (first | (with_reducible first | exact HB.out | apply below_alloc | apply pw_below_drewN | apply below_drew1) | exact HB.out)); (case side2 => exact Kd.R_nil _ _ _ _ _); (case side3 => intro k_ e_ e2_; simp [Value.ownBlock] at e_ e2_); (case side4 => exact Kd.R_tight rfl HO134.out); (case side5 => intro k_ e_ e2_; simp [Value.ownBlock] at e_ e2_); rintro e w25 ⟨rfl, hb, hkp⟩; refine ⟨_, rfl, ?_⟩; have n0_ := Aside0.mk (Kd.R_mono (ok' := fun k_ => True) (Kd.R_keptB (HO127.out) hkp (fun k_ hk_ hs_ => Or.elim hs_ (fun e_ => (fun e_ => by simp [Value.ownBlock] at e_) e_) (fun e_ => (hk_.2) e_))) (fun k_ hk_ => trivial)); have n1_ := Aside0.mk (hb); clear HO127; clear HB; clear HO134; have HO127 := n0_; have HB := n1_; clear n0_ n1_; (try clear hb); (try clear hkp)) | ((with_reducible refine gate_callee (f := 15) rfl ?_); refine goesL_ (some 31) rfl rfl Try.func15 (by kernel_rfl) rfl #[.string ((t128 ++ (⟨#[95]⟩ : ByteArray)) ++ t135)] rfl (by (try simp only [List.map_toArray, List.map_cons, List.map_nil]); first | done | rfl | (simp only [List.length_drop, List.length_take]; rfl)) ?_; (with_reducible refine (impl_Punycode.calls ((t128 ++ (⟨#[95]⟩ : ByteArray)) ++ t135) t136 t137 _ A13.out).mono ?_); rintro e w26 ⟨rfl, hb⟩; refine ⟨_, rfl, ?_⟩; have n0_ := Aside0.mk (Kd.R_below (by (with_reducible repeat (first | apply Kd.R_alloc | apply Kd.R_drewN | apply Kd.R_drew)); exact HO127.out) hb); have n1_ := Aside0.mk (below_step (by repeat (first | (with_reducible first | exact HB.out | apply below_alloc | apply pw_below_drewN | apply below_drew1) | exact HB.out)) hb); clear HO127; clear HB; have HO127 := n0_; have HB := n1_; clear n0_ n1_; (try clear hb); (try clear hb2); (try clear hk); (try clear hi)))
                go_loopg [8, 36] kj2 (fun kq v8 v36 w' => ∃ (x8_2 : ByteArray) (x36_2 : Int), v8 = .string x8_2 ∧ v36 = .int .i64 x36_2 ∧ Aside0 (laws_FnPunycodeKeeps.l0 kq t128 t136 t137 x8_2 (t136.size : Int) x36_2 = some r) ∧ Aside0 (kq ≤ kj2) ∧ Aside0 (Below w.heap.size w w'))
                case atStart => exact ⟨((⟨#[]⟩ : ByteArray)), (0), (by first | rfl | (simp; done) | (simp [*]; done)), (by first | rfl | (simp; done) | (simp [*]; done)), H', ⟨Nat.le_refl _⟩, ⟨by repeat (first | (with_reducible first | exact HB.out | apply below_alloc | apply pw_below_drewN | apply below_drew1) | exact HB.out)⟩⟩
                case round =>
                  clear H'
                  try clear c1
                  try clear p2
                  try clear c4
                  try clear c4b0
                  try clear c4b1
                  try clear c5
                  try clear c6
                  try clear c9
                  try clear c9b0
                  try clear c9b1
                  try clear c9b2
                  try clear c10
                  try clear c12
                  try clear c12b0
                  try clear c12b1
                  try clear c12b2
                  try clear c13
                  try clear c14
                  try clear c15
                  try clear c16
                  try clear p2
                  obtain ⟨x8_2, x36_2, rfl, rfl, HA, HK2, HB⟩ := hrel
                  cases gk with
                  | zero => exact absurd HA.out (by simp [laws_FnPunycodeKeeps.l0])
                  | succ k2 =>
                    have H := HA.out
                    clear HA
                    simp only [laws_FnPunycodeKeeps.l0] at H
                    by_cases c27 : x36_2 < (t136.size : Int)
                    · rw [if_pos c27] at H
                      have c27b0 : decide (x36_2 < (t136.size : Int)) = true := decide_eq_true c27
                      clear c27
                      by_cases c28 : 0 ≤ x36_2
                      · rw [if_pos c28] at H
                        have c28b0 : decide (0 ≤ x36_2) = true := decide_eq_true c28
                        clear c28
                        by_cases c29 : x36_2 < (t136.size : Int)
                        · rw [if_pos c29] at H
                          have c29b0 : decide (x36_2 < (t136.size : Int)) = true := decide_eq_true c29
                          clear c29
                          by_cases c31 : (bt t136 x36_2) < 128
                          · rw [if_pos c31] at H
                            have c31b0 : decide ((bt t136 x36_2) < 128) = true := decide_eq_true c31
                            clear c31
                            have c32b0 := eq_true (of_decide_eq_true (by first | (with_reducible assumption) | assumption) : 0 ≤ x36_2)
                            by_cases c33 : x36_2 ≤ (wrap64 (x36_2 + 1))
                            · rw [if_pos c33] at H
                              have c33b0 := eq_true c33
                              have c33b1 : decide (x36_2 ≤ (wrap64 (x36_2 + 1))) = true := decide_eq_true c33
                              by_cases c34 : (wrap64 (x36_2 + 1)) ≤ (t136.size : Int)
                              · rw [if_pos c34] at H
                                have c34b0 := eq_true c34
                                have c34b1 : decide ((wrap64 (x36_2 + 1)) ≤ (t136.size : Int)) = true := decide_eq_true c34
                                by_cases c35 : x8_2.size + (t136.extract (x36_2 : Int).toNat ((wrap64 (x36_2 + 1)) : Int).toNat).size ≤ 9223372036854775807
                                · rw [if_pos c35] at H
                                  have c35b0 := eq_true c35
                                  have c35b1 : decide (x8_2.size + (t136.extract (x36_2 : Int).toNat ((wrap64 (x36_2 + 1)) : Int).toNat).size ≤ 9223372036854775807) = true := decide_eq_true c35
                                  try have c35b2 : (9223372036854775807 < x8_2.size + (t136.extract (x36_2 : Int).toNat ((wrap64 (x36_2 + 1)) : Int).toNat).size) = False := eq_false (Nat.not_lt.2 c35)
                                  try (have c35q := c35; rw [ByteArray.size_extract, Nat.min_eq_left (by show _ ≤ Array.size _; simp only [List.size_toArray, List.length_cons, List.length_nil]; omega)] at c35q; have c35b3 := eq_false (Nat.not_lt.2 c35q); clear c35q)
                                  have H' := Aside0.mk H
                                  clear H
                                  have p30 : 0 ≤ (x36_2 : Int) := of_decide_eq_true (by first | (with_reducible assumption) | assumption)
                                  have q30 : x36_2 < (t136.size : Int) := of_decide_eq_true (by first | (with_reducible assumption) | assumption)
                                  have hx30 := bt_at t136 x36_2
                                  replace p30 := eq_true p30
                                  replace q30 := eq_true q30
                                  go_wp2
                                  go_roundg k2
                                  case measure => have := HJ2.out; have := HK2.out; omega
                                  case rel => exact ⟨(x8_2 ++ (t136.extract (x36_2 : Int).toNat ((wrap64 (x36_2 + 1)) : Int).toNat)), (wrap64 (x36_2 + 1)), (by first | rfl | (simp; done) | (simp [*]; done)), (by first | rfl | (simp; done) | (simp [*]; done)), H', ⟨by have := HJ2.out; have := HK2.out; omega⟩, ⟨by repeat (first | (with_reducible first | exact HB.out | apply below_alloc | apply pw_below_drewN | apply below_drew1) | exact HB.out)⟩⟩
                                · rw [if_neg c35] at H
                                  exact absurd H (by simp)
                              · rw [if_neg c34] at H
                                exact absurd H (by simp)
                            · rw [if_neg c33] at H
                              exact absurd H (by simp)
                          · rw [if_neg c31] at H
                            have c31b0 : decide ((bt t136 x36_2) < 128) = false := decide_eq_false c31
                            clear c31
                            have H' := Aside0.mk H
                            clear H
                            have p30 : 0 ≤ (x36_2 : Int) := of_decide_eq_true (by first | (with_reducible assumption) | assumption)
                            have q30 : x36_2 < (t136.size : Int) := of_decide_eq_true (by first | (with_reducible assumption) | assumption)
                            have hx30 := bt_at t136 x36_2
                            replace p30 := eq_true p30
                            replace q30 := eq_true q30
                            go_wp2
                            go_roundg k2
                            case measure => have := HJ2.out; have := HK2.out; omega
                            case rel => exact ⟨(x8_2), (wrap64 (x36_2 + 1)), (by first | rfl | (simp; done) | (simp [*]; done)), (by first | rfl | (simp; done) | (simp [*]; done)), H', ⟨by have := HJ2.out; have := HK2.out; omega⟩, ⟨by repeat (first | (with_reducible first | exact HB.out | apply below_alloc | apply pw_below_drewN | apply below_drew1) | exact HB.out)⟩⟩
                        · rw [if_neg c29] at H
                          exact absurd H (by simp)
                      · rw [if_neg c28] at H
                        exact absurd H (by simp)
                    · rw [if_neg c27] at H
                      have c27b0 : decide (x36_2 < (t136.size : Int)) = false := decide_eq_false c27
                      clear c27
                      by_cases c36 : t137 = true
                      · subst c36
                        have H1 : (if x8_2.toList = t128.toList then ((laws_doorPuny.f (⟨#[103, 100, 101, 108, 95, 53, 113, 97]⟩ : ByteArray) (⟨#[103, 195, 182, 100, 101, 108]⟩ : ByteArray)).bind fun t138 => (some t138)) else (some false)) = some r := by rw [if_pos rfl] at H; exact H
                        clear H
                        have H := H1
                        clear H1
                        by_cases c37 : x8_2.toList = t128.toList
                        · rw [if_pos c37] at H
                          have c37b0 : (x8_2.toList == t128.toList) = true := beq_iff_eq.mpr c37
                          have c37b1 : (x8_2.toList != t128.toList) = false := bne_eq_false_iff_eq.mpr c37
                          clear c37
                          replace H := Option.bind_eq_some_iff.mp H
                          obtain ⟨t138, A380, H⟩ := H
                          replace H : (some t138) = some r := H
                          have A38 := Aside0.mk A380
                          clear A380
                          obtain rfl := Option.some.inj H
                          go_wp2_with (first | (go_at_call 17; (with_reducible refine (laws_doorPuny.calls (⟨#[103, 100, 101, 108, 95, 53, 113, 97]⟩ : ByteArray) (⟨#[103, 195, 182, 100, 101, 108]⟩ : ByteArray) t138 _ A38.out).mono ?_); rintro e w39 ⟨rfl, hb⟩; have n0_ := Aside0.mk (below_step (by repeat (first | (with_reducible first | exact HB.out | apply below_alloc | apply pw_below_drewN | apply below_drew1) | exact HB.out)) hb); clear HB; have HB := n0_; clear n0_; (try clear hb); (try clear hb2); (try clear hk); (try clear hi)))
                          go_ret
                          exact ⟨by first | rfl | (simp [errW_none, errW_some] <;> rfl) | (simp [*, errW_none, errW_some] <;> rfl), by repeat (first | (with_reducible first | exact HB.out | apply below_alloc | apply pw_below_drewN | apply below_drew1) | exact HB.out)⟩
                        · rw [if_neg c37] at H
                          have c37b0 : (x8_2.toList == t128.toList) = false := beq_eq_false_iff_ne.mpr c37
                          have c37b1 : (x8_2.toList != t128.toList) = true := bne_iff_ne.mpr c37
                          obtain rfl := Option.some.inj H
                          go_wp2
                          go_ret
                          exact ⟨by first | rfl | (simp [errW_none, errW_some] <;> rfl) | (simp [*, errW_none, errW_some] <;> rfl), by repeat (first | (with_reducible first | exact HB.out | apply below_alloc | apply pw_below_drewN | apply below_drew1) | exact HB.out)⟩
                      · replace c36 := Bool.eq_false_iff.mpr c36
                        subst c36
                        have H1 : ((laws_doorPuny.f (⟨#[103, 100, 101, 108, 95, 53, 113, 97]⟩ : ByteArray) (⟨#[103, 195, 182, 100, 101, 108]⟩ : ByteArray)).bind fun t139 => (some t139)) = some r := by rw [if_neg (show ¬ (false = true) by decide)] at H; exact H
                        clear H
                        have H := H1
                        clear H1
                        replace H := Option.bind_eq_some_iff.mp H
                        obtain ⟨t139, A400, H⟩ := H
                        replace H : (some t139) = some r := H
                        have A40 := Aside0.mk A400
                        clear A400
                        obtain rfl := Option.some.inj H
                        go_wp2_with (first | (go_at_call 17; (with_reducible refine (laws_doorPuny.calls (⟨#[103, 100, 101, 108, 95, 53, 113, 97]⟩ : ByteArray) (⟨#[103, 195, 182, 100, 101, 108]⟩ : ByteArray) t139 _ A40.out).mono ?_); rintro e w41 ⟨rfl, hb⟩; have n0_ := Aside0.mk (below_step (by repeat (first | (with_reducible first | exact HB.out | apply below_alloc | apply pw_below_drewN | apply below_drew1) | exact HB.out)) hb); clear HB; have HB := n0_; clear n0_; (try clear hb); (try clear hb2); (try clear hk); (try clear hi)))
                        go_ret
                        exact ⟨by first | rfl | (simp [errW_none, errW_some] <;> rfl) | (simp [*, errW_none, errW_some] <;> rfl), by repeat (first | (with_reducible first | exact HB.out | apply below_alloc | apply pw_below_drewN | apply below_drew1) | exact HB.out)⟩
              · rw [if_neg c12] at H
                exact absurd H (by simp)
            · rw [if_neg c10] at H
              exact absurd H (by simp)
          · rw [if_neg c9] at H
            exact absurd H (by simp)
        · rw [if_neg c6] at H
          exact absurd H (by simp)

/-- THE ONE PURE STATEMENT of laws_FnPunycodeKeeps: yours. -/
def laws_FnPunycodeKeeps.Pure : Prop := ∀ (l0 : List Int) (l1 : List Int), l0.length ≤ maxLen → l0.length * 1 ≤ 140737488351232 → (∀ x ∈ l0, (Lit.int .u8 x).wf = true) → l1.length ≤ maxLen → l1.length * 1 ≤ 140737488351232 → (∀ x ∈ l1, (Lit.int .u8 x).wf = true) → ∃ k, laws_FnPunycodeKeeps.f k l0 l1 = some true
theorem laws_FnPunycodeKeeps.walk (P : laws_FnPunycodeKeeps.Pure) (a0 : Option Addr) (len0 cap0 : Nat) (z0 : List Int) (a1 : Option Addr) (len1 cap1 : Nat) (z1 : List Int) (w : World) (w0 : (a0 = none ∧ len0 = 0 ∧ cap0 = 0 ∧ z0 = []) ∨ ∃ x, a0 = some x ∧ len0 ≤ cap0 ∧ cap0 ≤ maxLen ∧ z0.length = cap0 ∧ (∀ i, i < z0.length → w.cell? (x.add i) = some (.int .u8 (z0.getD i 0))) ∧ ∀ n ∈ z0, (Lit.int .u8 n).wf = true) (y0 : len0 * 1 ≤ 140737488351232) (w1 : (a1 = none ∧ len1 = 0 ∧ cap1 = 0 ∧ z1 = []) ∨ ∃ x, a1 = some x ∧ len1 ≤ cap1 ∧ cap1 ≤ maxLen ∧ z1.length = cap1 ∧ (∀ i, i < z1.length → w.cell? (x.add i) = some (.int .u8 (z1.getD i 0))) ∧ ∀ n ∈ z1, (Lit.int .u8 n).wf = true) (y1 : len1 * 1 ≤ 140737488351232) :
    Calls Try.prog 6 #[.slice a0 len0 cap0, .slice a1 len1 cap1] w fun e w' => e = .returned (.bool true) ∧ Below w.heap.size w w' := by
  obtain ⟨l0, rfl, hr0, hm0, hw0, hc0⟩ := ReadsInt.ofRowC w0
  obtain ⟨l1, rfl, hr1, hm1, hw1, hc1⟩ := ReadsInt.ofRowC w1
  obtain ⟨k, h⟩ := P l0 l1 hm0 y0 hw0 hm1 y1 hw1
  refine (laws_FnPunycodeKeeps.calls k _ _ l0 _ _ l1 true w (Kd.C_of_reads (d := (0 : Int)) (h1 := fun _ => rfl) hr0) hc0 (Kd.C_of_reads (d := (0 : Int)) (h1 := fun _ => rfl) hr1) hc1 h).mono ?_
  rintro e w' ⟨rfl, hd⟩
  exact ⟨rfl, hd⟩

end Go.Proofs.Ytfblehpiecialaa.PFnPunycodeKeeps
