/- Written by a program of this session (wip/tools/myprint.py) with the kit's print: contracts of the functions that one statement reaches; functions that are proved by hand are taken as printed. Conditions: none. -/
import Derived.Test.YtpmlnhddkbgefaaDoorPFnLegacyOptionsx0
namespace Go.Proofs.YtpmlnhddkbgefaaDoor.PFnLegacyOptions
open Go.RowKit Go.Proofs.YtpmlnhddkbgefaaDoorW.PrintWords Go.Proofs.YtpmlnhddkbgefaaDoorW.PrintLast Go.Proofs.YtpmlnhddkbgefaaDoorW.PrintMore
attribute [local go_sem] max2_int min2_int max_two min_two max_three min_three max_four min_four   -- for this text's walks alone
set_option linter.unusedVariables false
set_option linter.unusedSimpArgs false

/-! ### laws_zzFits3: function 26 -/
def laws_zzFits3.l0 : Nat → List (List Int) → Int → Int → Option (Bool)
  | 0, _, _, _ => none
  | k + 1, x8, x9, x10 => if x10 < x9 then (if 0 ≤ x10 then (if x10 < (x8.length : Int) then (if ((rd_L1 x8 x10).length : Int) > 2147483647 then (some false) else (laws_zzFits3.l0 k x8 x9 (wrap64 (x10 + 1)))) else (none)) else (none)) else (some true)
def laws_zzFits3.f (k : Nat) (l0 : List (List Int)) : Option (Bool) := if (l0.length : Int) > 2147483647 then (some false) else (laws_zzFits3.l0 k l0 (l0.length : Int) 0)
theorem laws_zzFits3.mono_l : ∀ k, (∀ y0 y1 y2, LeO (laws_zzFits3.l0 k y0 y1 y2) (laws_zzFits3.l0 (k + 1) y0 y1 y2))
  | 0 => fun _ _ _ r h => by simp [laws_zzFits3.l0] at h
  | k + 1 => by
    have ih0 := laws_zzFits3.mono_l k
    · intro y0 y1 y2
      unfold laws_zzFits3.l0
      repeat' first
      | (with_reducible exact ih0 _ _ _)
      | (with_reducible exact LeO.refl _)
      | (with_reducible exact LeO.none _)
      | (with_reducible refine LeO.ite ?_ ?_)
      | (with_reducible refine LeO.bind ?_ (fun _ => ?_))
      | exact ih0 _ _ _
      | exact LeO.none _
      | refine LeO.ite ?_ ?_
      | refine LeO.bind ?_ (fun _ => ?_)
theorem laws_zzFits3.mono : ∀ a0 k, LeO (laws_zzFits3.f k a0) (laws_zzFits3.f (k + 1) a0) := by
  intro a0 k
  have ih0 := laws_zzFits3.mono_l k
  unfold laws_zzFits3.f
  repeat' first
      | (with_reducible exact ih0 _ _ _)
      | (with_reducible exact LeO.refl _)
      | (with_reducible exact LeO.none _)
      | (with_reducible refine LeO.ite ?_ ?_)
      | (with_reducible refine LeO.bind ?_ (fun _ => ?_))
      | exact ih0 _ _ _
      | exact LeO.none _
      | refine LeO.ite ?_ ?_
      | refine LeO.bind ?_ (fun _ => ?_)
set_option maxHeartbeats 8000000 in
set_option maxRecDepth 100000 in
theorem laws_zzFits3.calls (k : Nat) (A0 : Option Addr) (c0 : Nat) (l0 : List (List Int)) (r : Bool) (w : World) (hr0 : Kd.C (Kd.slice 3 (Kd.int .i64)) w A0 l0.length l0) (hc0 : l0.length ≤ c0) (h : laws_zzFits3.f k l0 = some r) :
    Calls Tryd.prog 26 #[.slice A0 l0.length c0] w fun e w' => e = .returned (.bool r) ∧ Drawn0 w w' := by
  have HR0 := Aside0.mk hr0
  have HC0 := Aside0.mk hc0
  clear hr0 hc0
  have H : (if (l0.length : Int) > 2147483647 then (some false) else (laws_zzFits3.l0 k l0 (l0.length : Int) 0)) = some r := h
  clear h
  by_cases c2 : (l0.length : Int) > 2147483647
  · rw [if_pos c2] at H
    have c2b0 : decide (2147483647 < (l0.length : Int)) = true := decide_eq_true c2
    have c2b1 : decide (2147483647 < l0.length) = true := decide_eq_true (by omega)
    clear c2
    obtain rfl := Option.some.inj H
    go_enter Tryd.func26, Tryd.ntmps26
    go_wp2
    go_ret
    exact ⟨by first | rfl | (simp; done) | (simp [*]; done), by repeat (first | exact Drawn0.refl _ | apply Drawn0.step)⟩
  · rw [if_neg c2] at H
    have c2b0 : decide (2147483647 < (l0.length : Int)) = false := decide_eq_false c2
    have c2b1 : decide (2147483647 < l0.length) = false := decide_eq_false (by omega)
    clear c2
    have H' := Aside0.mk H
    clear H
    go_enter Tryd.func26, Tryd.ntmps26
    go_wp2
    go_loopg [10] k (fun kq v10 w' => ∃ (x10_1 : Int), v10 = .int .i64 x10_1 ∧ Aside0 (laws_zzFits3.l0 kq l0 (l0.length : Int) x10_1 = some r) ∧ Aside0 (kq ≤ k) ∧ Drawn0 w w')
    case atStart => exact ⟨(0), (by first | rfl | (simp; done) | (simp [*]; done)), H', ⟨Nat.le_refl _⟩, by repeat (first | exact Drawn0.refl _ | apply Drawn0.step)⟩
    case round =>
      clear H'
      try clear c2
      try clear c2b0
      try clear c2b1
      try clear p2
      obtain ⟨x10_1, rfl, HA, HK1, ⟨m1, rfl⟩⟩ := hrel
      cases gk with
      | zero => exact absurd HA.out (by simp [laws_zzFits3.l0])
      | succ k1 =>
        have H := HA.out
        clear HA
        simp only [laws_zzFits3.l0] at H
        by_cases c3 : x10_1 < (l0.length : Int)
        · rw [if_pos c3] at H
          have c3b0 : decide (x10_1 < (l0.length : Int)) = true := decide_eq_true c3
          clear c3
          by_cases c4 : 0 ≤ x10_1
          · rw [if_pos c4] at H
            have c4b0 : decide (0 ≤ x10_1) = true := decide_eq_true c4
            clear c4
            by_cases c5 : x10_1 < (l0.length : Int)
            · rw [if_pos c5] at H
              have c5b0 : decide (x10_1 < (l0.length : Int)) = true := decide_eq_true c5
              clear c5
              by_cases c6 : ((rd_L1 l0 x10_1).length : Int) > 2147483647
              · rw [if_pos c6] at H
                have c6b0 : decide (2147483647 < ((rd_L1 l0 x10_1).length : Int)) = true := decide_eq_true c6
                have c6b1 : decide (2147483647 < (rd_L1 l0 x10_1).length) = true := decide_eq_true (by omega)
                clear c6
                obtain rfl := Option.some.inj H
                have p101 : 0 ≤ (x10_1 : Int) := of_decide_eq_true (by first | (with_reducible assumption) | assumption)
                have q101 : x10_1 < (l0.length : Int) := of_decide_eq_true (by first | (with_reducible assumption) | assumption)
                obtain ⟨ad101, A101_0, c101_0, e101, hx101_0, hl101_0, hi101_0⟩ := at_L1 HR0.out x10_1 p101 q101
                cases e101
                have HR101_0 := Aside0.mk hi101_0
                have HC101_0 := Aside0.mk hl101_0
                clear hi101_0 hl101_0
                replace p101 := eq_true p101
                replace q101 := eq_true q101
                go_wp2
                go_ret
                exact ⟨by first | rfl | (simp; done) | (simp [*]; done), by repeat (first | exact Drawn0.refl _ | apply Drawn0.step)⟩
              · rw [if_neg c6] at H
                have c6b0 : decide (2147483647 < ((rd_L1 l0 x10_1).length : Int)) = false := decide_eq_false c6
                have c6b1 : decide (2147483647 < (rd_L1 l0 x10_1).length) = false := decide_eq_false (by omega)
                clear c6
                have H' := Aside0.mk H
                clear H
                have p101 : 0 ≤ (x10_1 : Int) := of_decide_eq_true (by first | (with_reducible assumption) | assumption)
                have q101 : x10_1 < (l0.length : Int) := of_decide_eq_true (by first | (with_reducible assumption) | assumption)
                obtain ⟨ad101, A101_0, c101_0, e101, hx101_0, hl101_0, hi101_0⟩ := at_L1 HR0.out x10_1 p101 q101
                cases e101
                have HR101_0 := Aside0.mk hi101_0
                have HC101_0 := Aside0.mk hl101_0
                clear hi101_0 hl101_0
                replace p101 := eq_true p101
                replace q101 := eq_true q101
                go_wp2
                go_roundg k1
                case measure => have := HK1.out; omega
                case rel => exact ⟨(wrap64 (x10_1 + 1)), (by first | rfl | (simp; done) | (simp [*]; done)), H', ⟨by have := HK1.out; omega⟩, by repeat (first | exact Drawn0.refl _ | apply Drawn0.step)⟩
            · rw [if_neg c5] at H
              exact absurd H (by simp)
          · rw [if_neg c4] at H
            exact absurd H (by simp)
        · rw [if_neg c3] at H
          have c3b0 : decide (x10_1 < (l0.length : Int)) = false := decide_eq_false c3
          clear c3
          obtain rfl := Option.some.inj H
          go_wp2
          go_ret
          exact ⟨by first | rfl | (simp; done) | (simp [*]; done), by repeat (first | exact Drawn0.refl _ | apply Drawn0.step)⟩

/-! ### spec_AnWord: function 31 -/
def spec_AnWord.l0 : Nat → List Int → List Int → List Int → Int → Int → Option (ByteArray)
  | 0, _, _, _, _, _ => none
  | k + 1, x0, x3, x12, x13, x14 => if x14 < x13 then (if 0 ≤ x14 then (if x14 < (x12.length : Int) then (if 0 ≤ (Int.tmod (wrap64 (rd x12 x14)) 62) then (if (Int.tmod (wrap64 (rd x12 x14)) 62) < 63 then (if x14 < (x3.length : Int) then (spec_AnWord.l0 k x0 (x3.set (x14 : Int).toNat (bt (⟨#[97, 98, 99, 100, 101, 102, 103, 104, 105, 106, 107, 108, 109, 110, 111, 112, 113, 114, 115, 116, 117, 118, 119, 120, 121, 122, 65, 66, 67, 68, 69, 70, 71, 72, 73, 74, 75, 76, 77, 78, 79, 80, 81, 82, 83, 84, 85, 86, 87, 88, 89, 90, 48, 49, 50, 51, 52, 53, 54, 55, 56, 57, 95]⟩ : ByteArray) (Int.tmod (wrap64 (rd x12 x14)) 62))) x12 x13 (wrap64 (x14 + 1))) else (none)) else (none)) else (none)) else (none)) else (none)) else (if 0 < (x0.length : Int) then (if 0 ≤ (Int.tmod (wrap64 (rd x0 0)) 52) then (if (Int.tmod (wrap64 (rd x0 0)) 52) < 63 then (if 0 < (x3.length : Int) then (some (strOfNums (x3.set (0 : Int).toNat (bt (⟨#[97, 98, 99, 100, 101, 102, 103, 104, 105, 106, 107, 108, 109, 110, 111, 112, 113, 114, 115, 116, 117, 118, 119, 120, 121, 122, 65, 66, 67, 68, 69, 70, 71, 72, 73, 74, 75, 76, 77, 78, 79, 80, 81, 82, 83, 84, 85, 86, 87, 88, 89, 90, 48, 49, 50, 51, 52, 53, 54, 55, 56, 57, 95]⟩ : ByteArray) (Int.tmod (wrap64 (rd x0 0)) 52))))) else (none)) else (none)) else (none)) else (none))
def spec_AnWord.f (k : Nat) (l0 : List Int) : Option (ByteArray) := if (l0.length : Int) = 0 then (some (⟨#[97]⟩ : ByteArray)) else (if 0 ≤ (l0.length : Int) then (if ((l0.length : Int) : Int).toNat ≤ 281474976710656 then (spec_AnWord.l0 k l0 (List.replicate ((l0.length : Int) : Int).toNat 0) l0 (l0.length : Int) 0) else (none)) else (none))
theorem spec_AnWord.mono_l : ∀ k, (∀ y0 y1 y2 y3 y4, LeO (spec_AnWord.l0 k y0 y1 y2 y3 y4) (spec_AnWord.l0 (k + 1) y0 y1 y2 y3 y4))
  | 0 => fun _ _ _ _ _ r h => by simp [spec_AnWord.l0] at h
  | k + 1 => by
    have ih0 := spec_AnWord.mono_l k
    · intro y0 y1 y2 y3 y4
      unfold spec_AnWord.l0
      repeat' first
      | (with_reducible exact ih0 _ _ _ _ _)
      | (with_reducible exact LeO.refl _)
      | (with_reducible exact LeO.none _)
      | (with_reducible refine LeO.ite ?_ ?_)
      | (with_reducible refine LeO.bind ?_ (fun _ => ?_))
      | exact ih0 _ _ _ _ _
      | exact LeO.none _
      | refine LeO.ite ?_ ?_
      | refine LeO.bind ?_ (fun _ => ?_)
theorem spec_AnWord.mono : ∀ a0 k, LeO (spec_AnWord.f k a0) (spec_AnWord.f (k + 1) a0) := by
  intro a0 k
  have ih0 := spec_AnWord.mono_l k
  unfold spec_AnWord.f
  repeat' first
      | (with_reducible exact ih0 _ _ _ _ _)
      | (with_reducible exact LeO.refl _)
      | (with_reducible exact LeO.none _)
      | (with_reducible refine LeO.ite ?_ ?_)
      | (with_reducible refine LeO.bind ?_ (fun _ => ?_))
      | exact ih0 _ _ _ _ _
      | exact LeO.none _
      | refine LeO.ite ?_ ?_
      | refine LeO.bind ?_ (fun _ => ?_)
set_option maxHeartbeats 8000000 in
set_option maxRecDepth 100000 in
theorem spec_AnWord.calls (k : Nat) (A0 : Option Addr) (c0 : Nat) (l0 : List Int) (r : ByteArray) (w : World) (hr0 : Kd.C (Kd.int .u8) w A0 l0.length l0) (hc0 : l0.length ≤ c0) (h : spec_AnWord.f k l0 = some r) :
    Calls Tryd.prog 31 #[.slice A0 l0.length c0] w fun e w' => e = .returned (.string r) ∧ Below w.heap.size w w' := by
  have HR0 := Aside0.mk hr0
  have HC0 := Aside0.mk hc0
  clear hr0 hc0
  have HB := Aside0.mk (Below.refl w.heap.size w)
  have H : (if (l0.length : Int) = 0 then (some (⟨#[97]⟩ : ByteArray)) else (if 0 ≤ (l0.length : Int) then (if ((l0.length : Int) : Int).toNat ≤ 281474976710656 then (spec_AnWord.l0 k l0 (List.replicate ((l0.length : Int) : Int).toNat 0) l0 (l0.length : Int) 0) else (none)) else (none))) = some r := h
  clear h
  by_cases c2 : (l0.length : Int) = 0
  · rw [if_pos c2] at H
    have c2b0 : ((l0.length : Int) == 0) = true := beq_iff_eq.mpr c2
    have c2b1 : ((l0.length : Int) != 0) = false := bne_eq_false_iff_eq.mpr c2
    clear c2
    obtain rfl := Option.some.inj H
    go_enter Tryd.func31, Tryd.ntmps31
    go_wp2
    go_ret
    exact ⟨by first | rfl | (simp [errW_none, errW_some] <;> rfl) | (simp [*, errW_none, errW_some] <;> rfl), by repeat (first | (with_reducible first | exact HB.out | apply below_alloc | apply pw_below_drewN | apply below_drew1) | exact HB.out)⟩
  · rw [if_neg c2] at H
    have c2b0 : ((l0.length : Int) == 0) = false := beq_eq_false_iff_ne.mpr c2
    have c2b1 : ((l0.length : Int) != 0) = true := bne_iff_ne.mpr c2
    have c2b2 : ¬ (l0 = []) := fun h_ => c2 (by rw [h_]; rfl)
    by_cases c3 : 0 ≤ (l0.length : Int)
    · rw [if_pos c3] at H
      have c3b0 := eq_true c3
      have c3b1 : decide (0 ≤ (l0.length : Int)) = true := decide_eq_true c3
      clear c3
      by_cases c4 : ((l0.length : Int) : Int).toNat ≤ 281474976710656
      · rw [if_pos c4] at H
        have c4b0 := eq_true c4
        have c4b1 : decide (((l0.length : Int) : Int).toNat ≤ 281474976710656) = true := decide_eq_true c4
        clear c4
        obtain ⟨y102, hy102⟩ : ∃ y_ : List Int, y_ = (List.replicate ((l0.length : Int) : Int).toNat 0) := ⟨_, rfl⟩
        replace H : (spec_AnWord.l0 k l0 y102 l0 (l0.length : Int) 0) = some r := by first | (rw [hy102]; with_reducible exact H) | (have H2_ := (Option.bind_some _ _).symm.trans H; rw [hy102]; with_reducible exact H2_) | (have H2_ := (Option.bind_some _ _).symm.trans H; with_reducible exact H2_) | with_reducible exact H | (rw [hy102]; exact H) | exact H
        have Ny102 := Aside0.mk hy102
        clear hy102
        have H' := Aside0.mk H
        clear H
        go_enter Tryd.func31, Tryd.ntmps31
        go_wp2_with (first | (go_at_call 32; refine (idCut_at _ _ _ _ _ _ (by assumption) (by assumption)).mono ?_; rintro e w_ ⟨rfl, rfl⟩) | ((with_reducible refine gate_dst (N := 11) rfl ?_); refine Kd.R_make (Kd.int .u8) _ 5 rfl (N := 11) rfl 27 _ _ rfl (l0.length : Int) rfl rfl Tryd.underlying27 (.int .u8 0) 1 info5 rfl (by decide) (by omega) 0 (ok := fun _ => True) (okp := fun _ => True) rfl (fun _ hk => hk) trivial (of_decide_eq_true (by first | (with_reducible assumption) | assumption)) (Nat.le_trans (Nat.mul_le_mul_right _ (of_decide_eq_true (by first | (with_reducible assumption) | assumption) : (l0.length : Int).toNat ≤ 281474976710656)) (by omega)) (Below.refl _ _) (Nat.le_refl _) ?_; intro v103 w5 ho6 hb hg_ hnew_; clear hg_ hnew_; (first | rw [← Ny102.out] at ho6 | (simp only [Int.reduceToNat] at ho6; rw [← Ny102.out] at ho6)); have n0_ := Aside0.mk (Kd.R_lower ho6 (below_size (by repeat (first | (with_reducible first | exact HB.out | apply below_alloc | apply pw_below_drewN | apply below_drew1) | exact HB.out)))); have n1_ := Aside0.mk (below_step (by repeat (first | (with_reducible first | exact HB.out | apply below_alloc | apply pw_below_drewN | apply below_drew1) | exact HB.out)) hb); clear HB; have HO104 := n0_; have HB := n1_; clear n0_ n1_; clear hb ho6))
        go_loopg [14] k (fun kq v14 w' => ∃ (x3_1 : List Int) (x14_1 : Int), v14 = .int .i64 x14_1 ∧ Aside0 (spec_AnWord.l0 kq l0 x3_1 l0 (l0.length : Int) x14_1 = some r) ∧ Aside0 (kq ≤ k) ∧ Aside0 (Kd.R (Kd.int .u8) 5 w' w.heap.size (fun _ => True) v103 x3_1) ∧ Aside0 (Below w.heap.size w w'))
        case atStart => exact ⟨(y102), (0), (by first | rfl | (simp; done) | (simp [*]; done)), H', ⟨Nat.le_refl _⟩, ⟨by (with_reducible repeat (first | apply Kd.R_alloc | apply Kd.R_drewN | apply Kd.R_drew)); exact HO104.out⟩, ⟨by repeat (first | (with_reducible first | exact HB.out | apply below_alloc | apply pw_below_drewN | apply below_drew1) | exact HB.out)⟩⟩
        case round =>
          clear H'
          try clear c2
          try clear c2b0
          try clear c2b1
          try clear c2b2
          try clear p2
          try clear c3
          try clear c3b0
          try clear c3b1
          try clear c4
          try clear c4b0
          try clear c4b1
          obtain ⟨x3_1, x14_1, rfl, HA, HK1, HO_3, HB⟩ := hrel
          cases gk with
          | zero => exact absurd HA.out (by simp [spec_AnWord.l0])
          | succ k1 =>
            have H := HA.out
            clear HA
            simp only [spec_AnWord.l0] at H
            by_cases c7 : x14_1 < (l0.length : Int)
            · rw [if_pos c7] at H
              have c7b0 : decide (x14_1 < (l0.length : Int)) = true := decide_eq_true c7
              clear c7
              by_cases c8 : 0 ≤ x14_1
              · rw [if_pos c8] at H
                have c8b0 : decide (0 ≤ x14_1) = true := decide_eq_true c8
                clear c8
                by_cases c9 : x14_1 < (l0.length : Int)
                · rw [if_pos c9] at H
                  have c9b0 : decide (x14_1 < (l0.length : Int)) = true := decide_eq_true c9
                  clear c9
                  obtain ⟨ji10, hji10⟩ : ∃ j_ : Int, (Int.tmod (wrap64 (rd l0 x14_1)) 62) = j_ := ⟨_, rfl⟩
                  replace H : (if 0 ≤ (ji10) then (if (ji10) < 63 then (if x14_1 < (x3_1.length : Int) then (spec_AnWord.l0 k1 l0 (x3_1.set (x14_1 : Int).toNat (bt (⟨#[97, 98, 99, 100, 101, 102, 103, 104, 105, 106, 107, 108, 109, 110, 111, 112, 113, 114, 115, 116, 117, 118, 119, 120, 121, 122, 65, 66, 67, 68, 69, 70, 71, 72, 73, 74, 75, 76, 77, 78, 79, 80, 81, 82, 83, 84, 85, 86, 87, 88, 89, 90, 48, 49, 50, 51, 52, 53, 54, 55, 56, 57, 95]⟩ : ByteArray) (ji10))) l0 (l0.length : Int) (wrap64 (x14_1 + 1))) else (none)) else (none)) else (none)) = some r := by first | (rw [hji10] at H; exact H) | (simp only [hji10] at H ⊢; exact H)
                  by_cases c11 : 0 ≤ (ji10)
                  · rw [if_pos c11] at H
                    have c11b0 : decide (0 ≤ (ji10)) = true := decide_eq_true c11
                    clear c11
                    by_cases c12 : (ji10) < 63
                    · rw [if_pos c12] at H
                      have c12b0 : decide ((ji10) < 63) = true := decide_eq_true c12
                      clear c12
                      by_cases c14 : x14_1 < (x3_1.length : Int)
                      · rw [if_pos c14] at H
                        have c14b0 : decide (x14_1 < (x3_1.length : Int)) = true := decide_eq_true c14
                        clear c14
                        obtain ⟨y106, hy106⟩ : ∃ y_ : List Int, y_ = (x3_1.set (x14_1 : Int).toNat (bt (⟨#[97, 98, 99, 100, 101, 102, 103, 104, 105, 106, 107, 108, 109, 110, 111, 112, 113, 114, 115, 116, 117, 118, 119, 120, 121, 122, 65, 66, 67, 68, 69, 70, 71, 72, 73, 74, 75, 76, 77, 78, 79, 80, 81, 82, 83, 84, 85, 86, 87, 88, 89, 90, 48, 49, 50, 51, 52, 53, 54, 55, 56, 57, 95]⟩ : ByteArray) (ji10))) := ⟨_, rfl⟩
                        replace H : (spec_AnWord.l0 k1 l0 y106 l0 (l0.length : Int) (wrap64 (x14_1 + 1))) = some r := by first | (rw [hy106]; with_reducible exact H) | (have H2_ := (Option.bind_some _ _).symm.trans H; rw [hy106]; with_reducible exact H2_) | (have H2_ := (Option.bind_some _ _).symm.trans H; with_reducible exact H2_) | with_reducible exact H | (rw [hy106]; exact H) | exact H
                        have Ny106 := Aside0.mk hy106
                        clear hy106
                        have H' := Aside0.mk H
                        clear H
                        have p105 : 0 ≤ (x14_1 : Int) := of_decide_eq_true (by first | (with_reducible assumption) | assumption)
                        have q105 : x14_1 < (l0.length : Int) := of_decide_eq_true (by first | (with_reducible assumption) | assumption)
                        obtain ⟨ad105, e105, hx105_0⟩ := Kd.at_int HR0.out x14_1 p105 q105
                        cases e105
                        replace hx105_0 := (HB.out.cell (World.block_lt_of_cell? w _ hx105_0)).trans hx105_0
                        replace p105 := eq_true p105
                        replace q105 := eq_true q105
                        have p13 : 0 ≤ ((ji10) : Int) := of_decide_eq_true (by first | (with_reducible assumption) | assumption)
                        have q13 : (ji10) < (63 : Int) := of_decide_eq_true (by first | (with_reducible assumption) | assumption)
                        have hx13 := bt_at (⟨#[97, 98, 99, 100, 101, 102, 103, 104, 105, 106, 107, 108, 109, 110, 111, 112, 113, 114, 115, 116, 117, 118, 119, 120, 121, 122, 65, 66, 67, 68, 69, 70, 71, 72, 73, 74, 75, 76, 77, 78, 79, 80, 81, 82, 83, 84, 85, 86, 87, 88, 89, 90, 48, 49, 50, 51, 52, 53, 54, 55, 56, 57, 95]⟩ : ByteArray) (ji10)
                        replace p13 := eq_true p13
                        replace q13 := eq_true q13
                        have p15 : 0 ≤ (x14_1 : Int) := of_decide_eq_true (by first | (with_reducible assumption) | assumption)
                        have q15 : (x14_1 : Int) < ((x3_1.length : Int) : Int) := of_decide_eq_true (by first | (with_reducible assumption) | assumption)
                        obtain ⟨go15, co15, eo15, gb15, gl15, cl15, HG15⟩ := Kd.R_form HO_3.out (by omega)
                        (first | cases eo15 | (injection eo15 with ea_ en_ ec_; (first | subst ea_ | (injection ea_ with ea_; subst ea_)); subst ec_; clear en_))
                        have GB15 := Aside0.mk gb15
                        have GG15 := Aside0.mk HG15
                        clear gb15 gl15 HG15
                        obtain ⟨hx15_0, hf15_0⟩ := Kd.R_celln 0 HO_3.out (x14_1 : Int) p15 q15
                        replace p15 := eq_true p15
                        replace q15 := eq_true q15
                        have HP16 := Kd.R_putg HO_3.out (x14_1 : Int) (bt (⟨#[97, 98, 99, 100, 101, 102, 103, 104, 105, 106, 107, 108, 109, 110, 111, 112, 113, 114, 115, 116, 117, 118, 119, 120, 121, 122, 65, 66, 67, 68, 69, 70, 71, 72, 73, 74, 75, 76, 77, 78, 79, 80, 81, 82, 83, 84, 85, 86, 87, 88, 89, 90, 48, 49, 50, 51, 52, 53, 54, 55, 56, 57, 95]⟩ : ByteArray) (ji10))
                        go_wp2_with (first | (go_at_call 32; refine (idCut_at _ _ _ _ _ _ (by assumption) (by assumption)).mono ?_; rintro e w_ ⟨rfl, rfl⟩) | ((with_reducible refine gate_store (t := 5) (p := 25) rfl ?_); refine store_event (t := 5) (p := 25) (v := ?vo_w17) (w1 := (wr.setCell ⟨go15, (x14_1 : Int).toNat, none⟩ (.int .u8 (bt (⟨#[97, 98, 99, 100, 101, 102, 103, 104, 105, 106, 107, 108, 109, 110, 111, 112, 113, 114, 115, 116, 117, 118, 119, 120, 121, 122, 65, 66, 67, 68, 69, 70, 71, 72, 73, 74, 75, 76, 77, 78, 79, 80, 81, 82, 83, 84, 85, 86, 87, 88, 89, 90, 48, 49, 50, 51, 52, 53, 54, 55, 56, 57, 95]⟩ : ByteArray) (ji10))))) ?hg ?ho ?hn ?hr ?_; (case ho => rfl); (case hg => rfl); (case hn => rfl); (case hr => first | (go_simp; done) | (go_simp; rfl)); intro w17 hw; have hg : wr.grownBy w17 (some go15) := (by rw [hw]; exact HP16.2); have hp_ : Kd.R (Kd.int .u8) 5 w17 w.heap.size (fun _ => True) (.slice (some ⟨go15, 0, none⟩) x3_1.length co15) y106 := (by rw [hw, Ny106.out]; exact HP16.1); clear HP16; have n0_ := Aside0.mk (hp_); have n1_ := Aside0.mk ((by rw [hw]; exact below_set (HB.out) GB15.out : Below w.heap.size w w17)); clear HO_3; clear HB; have HO_3 := n0_; have HB := n1_; clear n0_ n1_; clear hg hw hp_))
                        go_roundg k1
                        case measure => have := HK1.out; omega
                        case rel => exact ⟨(y106), (wrap64 (x14_1 + 1)), (by first | rfl | (simp; done) | (simp [*]; done)), H', ⟨by have := HK1.out; omega⟩, ⟨by (with_reducible repeat (first | apply Kd.R_alloc | apply Kd.R_drewN | apply Kd.R_drew)); exact HO_3.out⟩, ⟨by repeat (first | (with_reducible first | exact HB.out | apply below_alloc | apply pw_below_drewN | apply below_drew1) | exact HB.out)⟩⟩
                      · rw [if_neg c14] at H
                        exact absurd H (by simp)
                    · rw [if_neg c12] at H
                      exact absurd H (by simp)
                  · rw [if_neg c11] at H
                    exact absurd H (by simp)
                · rw [if_neg c9] at H
                  exact absurd H (by simp)
              · rw [if_neg c8] at H
                exact absurd H (by simp)
            · rw [if_neg c7] at H
              have c7b0 : decide (x14_1 < (l0.length : Int)) = false := decide_eq_false c7
              clear c7
              by_cases c18 : 0 < (l0.length : Int)
              · rw [if_pos c18] at H
                have c18b0 : decide (0 < (l0.length : Int)) = true := decide_eq_true c18
                have c18b1 : decide (0 < l0.length) = true := decide_eq_true (by omega)
                clear c18
                obtain ⟨ji19, hji19⟩ : ∃ j_ : Int, (Int.tmod (wrap64 (rd l0 0)) 52) = j_ := ⟨_, rfl⟩
                replace H : (if 0 ≤ (ji19) then (if (ji19) < 63 then (if 0 < (x3_1.length : Int) then (some (strOfNums (x3_1.set (0 : Int).toNat (bt (⟨#[97, 98, 99, 100, 101, 102, 103, 104, 105, 106, 107, 108, 109, 110, 111, 112, 113, 114, 115, 116, 117, 118, 119, 120, 121, 122, 65, 66, 67, 68, 69, 70, 71, 72, 73, 74, 75, 76, 77, 78, 79, 80, 81, 82, 83, 84, 85, 86, 87, 88, 89, 90, 48, 49, 50, 51, 52, 53, 54, 55, 56, 57, 95]⟩ : ByteArray) (ji19))))) else (none)) else (none)) else (none)) = some r := by first | (rw [hji19] at H; exact H) | (simp only [hji19] at H ⊢; exact H)
                by_cases c20 : 0 ≤ (ji19)
                · rw [if_pos c20] at H
                  have c20b0 : decide (0 ≤ (ji19)) = true := decide_eq_true c20
                  clear c20
                  by_cases c21 : (ji19) < 63
                  · rw [if_pos c21] at H
                    have c21b0 : decide ((ji19) < 63) = true := decide_eq_true c21
                    clear c21
                    by_cases c23 : 0 < (x3_1.length : Int)
                    · rw [if_pos c23] at H
                      have c23b0 : decide (0 < (x3_1.length : Int)) = true := decide_eq_true c23
                      have c23b1 : decide (0 < x3_1.length) = true := decide_eq_true (by omega)
                      clear c23
                      obtain ⟨y108, hy108⟩ : ∃ y_ : List Int, y_ = (x3_1.set (0 : Int).toNat (bt (⟨#[97, 98, 99, 100, 101, 102, 103, 104, 105, 106, 107, 108, 109, 110, 111, 112, 113, 114, 115, 116, 117, 118, 119, 120, 121, 122, 65, 66, 67, 68, 69, 70, 71, 72, 73, 74, 75, 76, 77, 78, 79, 80, 81, 82, 83, 84, 85, 86, 87, 88, 89, 90, 48, 49, 50, 51, 52, 53, 54, 55, 56, 57, 95]⟩ : ByteArray) (ji19))) := ⟨_, rfl⟩
                      replace H : (some (strOfNums y108)) = some r := by first | (rw [hy108]; with_reducible exact H) | (have H2_ := (Option.bind_some _ _).symm.trans H; rw [hy108]; with_reducible exact H2_) | (have H2_ := (Option.bind_some _ _).symm.trans H; with_reducible exact H2_) | with_reducible exact H | (rw [hy108]; exact H) | exact H
                      have Ny108 := Aside0.mk hy108
                      clear hy108
                      obtain rfl := Option.some.inj H
                      have p107 : 0 ≤ (0 : Int) := (by omega)
                      have q107 : 0 < (l0.length : Int) := of_decide_eq_true (by first | (with_reducible assumption) | assumption)
                      obtain ⟨ad107, e107, hx107_0⟩ := Kd.at_int HR0.out 0 p107 q107
                      cases e107
                      have qi107 : (0 < l0.length) = True := eq_true (by omega)
                      (try rw [show ((0 : Int)).toNat = 0 from rfl] at hx107_0)
                      (try rw [Addr.add_zero'] at hx107_0)
                      replace hx107_0 := (HB.out.cell (World.block_lt_of_cell? w _ hx107_0)).trans hx107_0
                      replace p107 := eq_true p107
                      replace q107 := eq_true q107
                      have p22 : 0 ≤ ((ji19) : Int) := of_decide_eq_true (by first | (with_reducible assumption) | assumption)
                      have q22 : (ji19) < (63 : Int) := of_decide_eq_true (by first | (with_reducible assumption) | assumption)
                      have hx22 := bt_at (⟨#[97, 98, 99, 100, 101, 102, 103, 104, 105, 106, 107, 108, 109, 110, 111, 112, 113, 114, 115, 116, 117, 118, 119, 120, 121, 122, 65, 66, 67, 68, 69, 70, 71, 72, 73, 74, 75, 76, 77, 78, 79, 80, 81, 82, 83, 84, 85, 86, 87, 88, 89, 90, 48, 49, 50, 51, 52, 53, 54, 55, 56, 57, 95]⟩ : ByteArray) (ji19)
                      replace p22 := eq_true p22
                      replace q22 := eq_true q22
                      have p24 : 0 ≤ (0 : Int) := (by omega)
                      have q24 : (0 : Int) < ((x3_1.length : Int) : Int) := of_decide_eq_true (by first | (with_reducible assumption) | assumption)
                      have qi24 : (0 < x3_1.length) = True := eq_true (by omega)
                      obtain ⟨go24, co24, eo24, gb24, gl24, cl24, HG24⟩ := Kd.R_form HO_3.out (by omega)
                      (first | cases eo24 | (injection eo24 with ea_ en_ ec_; (first | subst ea_ | (injection ea_ with ea_; subst ea_)); subst ec_; clear en_))
                      have GB24 := Aside0.mk gb24
                      have GG24 := Aside0.mk HG24
                      clear gb24 gl24 HG24
                      obtain ⟨hx24_0, hf24_0⟩ := Kd.R_celln 0 HO_3.out (0 : Int) p24 q24
                      (try rw [show ((0 : Int)).toNat = 0 from rfl] at hx24_0)
                      (try simp only [Nat.reduceMul, Nat.zero_mul, Nat.zero_add, Nat.reduceAdd] at hx24_0)
                      (try rw [show ((0 : Int)).toNat = 0 from rfl] at hf24_0)
                      (try simp only [Nat.reduceMul, Nat.zero_mul, Nat.zero_add, Nat.reduceAdd] at hf24_0)
                      replace p24 := eq_true p24
                      replace q24 := eq_true q24
                      have HP25 := Kd.R_putg HO_3.out (0 : Int) (bt (⟨#[97, 98, 99, 100, 101, 102, 103, 104, 105, 106, 107, 108, 109, 110, 111, 112, 113, 114, 115, 116, 117, 118, 119, 120, 121, 122, 65, 66, 67, 68, 69, 70, 71, 72, 73, 74, 75, 76, 77, 78, 79, 80, 81, 82, 83, 84, 85, 86, 87, 88, 89, 90, 48, 49, 50, 51, 52, 53, 54, 55, 56, 57, 95]⟩ : ByteArray) (ji19))
                      go_wp2_with (first | (go_at_call 32; refine (idCut_at _ _ _ _ _ _ (by assumption) (by assumption)).mono ?_; rintro e w_ ⟨rfl, rfl⟩) | ((with_reducible refine gate_store (t := 5) (p := 34) rfl ?_); refine store_event (t := 5) (p := 34) (v := ?vo_w26) (w1 := (wr.setCell ⟨go24, (0 : Int).toNat, none⟩ (.int .u8 (bt (⟨#[97, 98, 99, 100, 101, 102, 103, 104, 105, 106, 107, 108, 109, 110, 111, 112, 113, 114, 115, 116, 117, 118, 119, 120, 121, 122, 65, 66, 67, 68, 69, 70, 71, 72, 73, 74, 75, 76, 77, 78, 79, 80, 81, 82, 83, 84, 85, 86, 87, 88, 89, 90, 48, 49, 50, 51, 52, 53, 54, 55, 56, 57, 95]⟩ : ByteArray) (ji19))))) ?hg ?ho ?hn ?hr ?_; (case ho => rfl); (case hg => rfl); (case hn => rfl); (case hr => first | (go_simp; done) | (go_simp; rfl)); intro w26 hw; have hg : wr.grownBy w26 (some go24) := (by rw [hw]; exact HP25.2); have hp_ : Kd.R (Kd.int .u8) 5 w26 w.heap.size (fun _ => True) (.slice (some ⟨go24, 0, none⟩) x3_1.length co24) y108 := (by rw [hw, Ny108.out]; exact HP25.1); clear HP25; have n0_ := Aside0.mk (hp_); have n1_ := Aside0.mk ((by rw [hw]; exact below_set (HB.out) GB24.out : Below w.heap.size w w26)); clear HO_3; clear HB; have HO_3 := n0_; have HB := n1_; clear n0_ n1_; clear hg hw hp_; have hcv27 := own_string (P := Tryd.prog) Tryd.underlying27 Tryd.underlying5 Tryd.underlying9 (Kd.own_of_R HO_3.out)))
                      go_ret
                      exact ⟨by first | rfl | (simp [errW_none, errW_some] <;> rfl) | (simp only [← hji19]; first | rfl | (simp [errW_none, errW_some] <;> rfl)) | (simp [*, errW_none, errW_some] <;> rfl), by repeat (first | (with_reducible first | exact HB.out | apply below_alloc | apply pw_below_drewN | apply below_drew1) | exact HB.out)⟩
                    · rw [if_neg c23] at H
                      exact absurd H (by simp)
                  · rw [if_neg c21] at H
                    exact absurd H (by simp)
                · rw [if_neg c20] at H
                  exact absurd H (by simp)
              · rw [if_neg c18] at H
                exact absurd H (by simp)
      · rw [if_neg c4] at H
        exact absurd H (by simp)
    · rw [if_neg c3] at H
      exact absurd H (by simp)

/-! ### spec_LgEscapes: function 33 -/
def spec_LgEscapes.f  : Option ((List (S56))) := some (([(⟨(⟨#[36, 83, 80, 36]⟩ : ByteArray), (⟨#[64]⟩ : ByteArray)⟩ : S56), (⟨(⟨#[36, 66, 80, 36]⟩ : ByteArray), (⟨#[42]⟩ : ByteArray)⟩ : S56), (⟨(⟨#[36, 82, 70, 36]⟩ : ByteArray), (⟨#[38]⟩ : ByteArray)⟩ : S56), (⟨(⟨#[36, 76, 84, 36]⟩ : ByteArray), (⟨#[60]⟩ : ByteArray)⟩ : S56), (⟨(⟨#[36, 71, 84, 36]⟩ : ByteArray), (⟨#[62]⟩ : ByteArray)⟩ : S56), (⟨(⟨#[36, 76, 80, 36]⟩ : ByteArray), (⟨#[40]⟩ : ByteArray)⟩ : S56), (⟨(⟨#[36, 82, 80, 36]⟩ : ByteArray), (⟨#[41]⟩ : ByteArray)⟩ : S56), (⟨(⟨#[36, 67, 36]⟩ : ByteArray), (⟨#[44]⟩ : ByteArray)⟩ : S56), (⟨(⟨#[36, 117, 50, 48, 36]⟩ : ByteArray), (⟨#[32]⟩ : ByteArray)⟩ : S56), (⟨(⟨#[36, 117, 50, 50, 36]⟩ : ByteArray), (⟨#[34]⟩ : ByteArray)⟩ : S56), (⟨(⟨#[36, 117, 50, 55, 36]⟩ : ByteArray), (⟨#[39]⟩ : ByteArray)⟩ : S56), (⟨(⟨#[36, 117, 50, 98, 36]⟩ : ByteArray), (⟨#[43]⟩ : ByteArray)⟩ : S56), (⟨(⟨#[36, 117, 51, 98, 36]⟩ : ByteArray), (⟨#[59]⟩ : ByteArray)⟩ : S56), (⟨(⟨#[36, 117, 53, 98, 36]⟩ : ByteArray), (⟨#[91]⟩ : ByteArray)⟩ : S56), (⟨(⟨#[36, 117, 53, 100, 36]⟩ : ByteArray), (⟨#[93]⟩ : ByteArray)⟩ : S56), (⟨(⟨#[36, 117, 55, 98, 36]⟩ : ByteArray), (⟨#[123]⟩ : ByteArray)⟩ : S56), (⟨(⟨#[36, 117, 55, 100, 36]⟩ : ByteArray), (⟨#[125]⟩ : ByteArray)⟩ : S56), (⟨(⟨#[36, 117, 55, 101, 36]⟩ : ByteArray), (⟨#[126]⟩ : ByteArray)⟩ : S56), (⟨(⟨#[46, 46]⟩ : ByteArray), (⟨#[58, 58]⟩ : ByteArray)⟩ : S56)] : List (S56)))
set_option maxHeartbeats 8000000 in
set_option maxRecDepth 100000 in
theorem spec_LgEscapes.calls  (r : List (S56)) (w : World) (h : spec_LgEscapes.f  = some r) :
    Calls Tryd.prog 33 #[] w fun e w' => ∃ v0_ : Value, e = .returned (v0_) ∧ Kd.R k56 56 w' w.heap.size (fun _ => True) v0_ r ∧ Below w.heap.size w w' := by
  have hu56 := Tryd.underlying56
  have HB := Aside0.mk (Below.refl w.heap.size w)
  have H : (some (([(⟨(⟨#[36, 83, 80, 36]⟩ : ByteArray), (⟨#[64]⟩ : ByteArray)⟩ : S56), (⟨(⟨#[36, 66, 80, 36]⟩ : ByteArray), (⟨#[42]⟩ : ByteArray)⟩ : S56), (⟨(⟨#[36, 82, 70, 36]⟩ : ByteArray), (⟨#[38]⟩ : ByteArray)⟩ : S56), (⟨(⟨#[36, 76, 84, 36]⟩ : ByteArray), (⟨#[60]⟩ : ByteArray)⟩ : S56), (⟨(⟨#[36, 71, 84, 36]⟩ : ByteArray), (⟨#[62]⟩ : ByteArray)⟩ : S56), (⟨(⟨#[36, 76, 80, 36]⟩ : ByteArray), (⟨#[40]⟩ : ByteArray)⟩ : S56), (⟨(⟨#[36, 82, 80, 36]⟩ : ByteArray), (⟨#[41]⟩ : ByteArray)⟩ : S56), (⟨(⟨#[36, 67, 36]⟩ : ByteArray), (⟨#[44]⟩ : ByteArray)⟩ : S56), (⟨(⟨#[36, 117, 50, 48, 36]⟩ : ByteArray), (⟨#[32]⟩ : ByteArray)⟩ : S56), (⟨(⟨#[36, 117, 50, 50, 36]⟩ : ByteArray), (⟨#[34]⟩ : ByteArray)⟩ : S56), (⟨(⟨#[36, 117, 50, 55, 36]⟩ : ByteArray), (⟨#[39]⟩ : ByteArray)⟩ : S56), (⟨(⟨#[36, 117, 50, 98, 36]⟩ : ByteArray), (⟨#[43]⟩ : ByteArray)⟩ : S56), (⟨(⟨#[36, 117, 51, 98, 36]⟩ : ByteArray), (⟨#[59]⟩ : ByteArray)⟩ : S56), (⟨(⟨#[36, 117, 53, 98, 36]⟩ : ByteArray), (⟨#[91]⟩ : ByteArray)⟩ : S56), (⟨(⟨#[36, 117, 53, 100, 36]⟩ : ByteArray), (⟨#[93]⟩ : ByteArray)⟩ : S56), (⟨(⟨#[36, 117, 55, 98, 36]⟩ : ByteArray), (⟨#[123]⟩ : ByteArray)⟩ : S56), (⟨(⟨#[36, 117, 55, 100, 36]⟩ : ByteArray), (⟨#[125]⟩ : ByteArray)⟩ : S56), (⟨(⟨#[36, 117, 55, 101, 36]⟩ : ByteArray), (⟨#[126]⟩ : ByteArray)⟩ : S56), (⟨(⟨#[46, 46]⟩ : ByteArray), (⟨#[58, 58]⟩ : ByteArray)⟩ : S56)] : List (S56)))) = some r := h
  clear h
  obtain ⟨y109, hy109⟩ : ∃ y_ : List (S56), y_ = (([(⟨(⟨#[36, 83, 80, 36]⟩ : ByteArray), (⟨#[64]⟩ : ByteArray)⟩ : S56), (⟨(⟨#[36, 66, 80, 36]⟩ : ByteArray), (⟨#[42]⟩ : ByteArray)⟩ : S56), (⟨(⟨#[36, 82, 70, 36]⟩ : ByteArray), (⟨#[38]⟩ : ByteArray)⟩ : S56), (⟨(⟨#[36, 76, 84, 36]⟩ : ByteArray), (⟨#[60]⟩ : ByteArray)⟩ : S56), (⟨(⟨#[36, 71, 84, 36]⟩ : ByteArray), (⟨#[62]⟩ : ByteArray)⟩ : S56), (⟨(⟨#[36, 76, 80, 36]⟩ : ByteArray), (⟨#[40]⟩ : ByteArray)⟩ : S56), (⟨(⟨#[36, 82, 80, 36]⟩ : ByteArray), (⟨#[41]⟩ : ByteArray)⟩ : S56), (⟨(⟨#[36, 67, 36]⟩ : ByteArray), (⟨#[44]⟩ : ByteArray)⟩ : S56), (⟨(⟨#[36, 117, 50, 48, 36]⟩ : ByteArray), (⟨#[32]⟩ : ByteArray)⟩ : S56), (⟨(⟨#[36, 117, 50, 50, 36]⟩ : ByteArray), (⟨#[34]⟩ : ByteArray)⟩ : S56), (⟨(⟨#[36, 117, 50, 55, 36]⟩ : ByteArray), (⟨#[39]⟩ : ByteArray)⟩ : S56), (⟨(⟨#[36, 117, 50, 98, 36]⟩ : ByteArray), (⟨#[43]⟩ : ByteArray)⟩ : S56), (⟨(⟨#[36, 117, 51, 98, 36]⟩ : ByteArray), (⟨#[59]⟩ : ByteArray)⟩ : S56), (⟨(⟨#[36, 117, 53, 98, 36]⟩ : ByteArray), (⟨#[91]⟩ : ByteArray)⟩ : S56), (⟨(⟨#[36, 117, 53, 100, 36]⟩ : ByteArray), (⟨#[93]⟩ : ByteArray)⟩ : S56), (⟨(⟨#[36, 117, 55, 98, 36]⟩ : ByteArray), (⟨#[123]⟩ : ByteArray)⟩ : S56), (⟨(⟨#[36, 117, 55, 100, 36]⟩ : ByteArray), (⟨#[125]⟩ : ByteArray)⟩ : S56), (⟨(⟨#[36, 117, 55, 101, 36]⟩ : ByteArray), (⟨#[126]⟩ : ByteArray)⟩ : S56), (⟨(⟨#[46, 46]⟩ : ByteArray), (⟨#[58, 58]⟩ : ByteArray)⟩ : S56)] : List (S56))) := ⟨_, rfl⟩
  replace H : (some y109) = some r := by first | (rw [hy109]; with_reducible exact H) | (have H2_ := (Option.bind_some _ _).symm.trans H; rw [hy109]; with_reducible exact H2_) | (have H2_ := (Option.bind_some _ _).symm.trans H; with_reducible exact H2_) | with_reducible exact H | (rw [hy109]; exact H) | exact H
  have Ny109 := Aside0.mk hy109
  clear hy109
  obtain rfl := Option.some.inj H
  go_enter Tryd.func33, Tryd.ntmps33
  go_wp2_with (first | (go_at_call 32; refine (idCut_at _ _ _ _ _ _ (by assumption) (by assumption)).mono ?_; rintro e w_ ⟨rfl, rfl⟩) | ((with_reducible refine gate_dst (N := 20) rfl ?_); refine Kd.R_lit k56 _ 56 ?hg (N := 20) ?hd (xs := ([(⟨(⟨#[36, 83, 80, 36]⟩ : ByteArray), (⟨#[64]⟩ : ByteArray)⟩ : S56), (⟨(⟨#[36, 66, 80, 36]⟩ : ByteArray), (⟨#[42]⟩ : ByteArray)⟩ : S56), (⟨(⟨#[36, 82, 70, 36]⟩ : ByteArray), (⟨#[38]⟩ : ByteArray)⟩ : S56), (⟨(⟨#[36, 76, 84, 36]⟩ : ByteArray), (⟨#[60]⟩ : ByteArray)⟩ : S56), (⟨(⟨#[36, 71, 84, 36]⟩ : ByteArray), (⟨#[62]⟩ : ByteArray)⟩ : S56), (⟨(⟨#[36, 76, 80, 36]⟩ : ByteArray), (⟨#[40]⟩ : ByteArray)⟩ : S56), (⟨(⟨#[36, 82, 80, 36]⟩ : ByteArray), (⟨#[41]⟩ : ByteArray)⟩ : S56), (⟨(⟨#[36, 67, 36]⟩ : ByteArray), (⟨#[44]⟩ : ByteArray)⟩ : S56), (⟨(⟨#[36, 117, 50, 48, 36]⟩ : ByteArray), (⟨#[32]⟩ : ByteArray)⟩ : S56), (⟨(⟨#[36, 117, 50, 50, 36]⟩ : ByteArray), (⟨#[34]⟩ : ByteArray)⟩ : S56), (⟨(⟨#[36, 117, 50, 55, 36]⟩ : ByteArray), (⟨#[39]⟩ : ByteArray)⟩ : S56), (⟨(⟨#[36, 117, 50, 98, 36]⟩ : ByteArray), (⟨#[43]⟩ : ByteArray)⟩ : S56), (⟨(⟨#[36, 117, 51, 98, 36]⟩ : ByteArray), (⟨#[59]⟩ : ByteArray)⟩ : S56), (⟨(⟨#[36, 117, 53, 98, 36]⟩ : ByteArray), (⟨#[91]⟩ : ByteArray)⟩ : S56), (⟨(⟨#[36, 117, 53, 100, 36]⟩ : ByteArray), (⟨#[93]⟩ : ByteArray)⟩ : S56), (⟨(⟨#[36, 117, 55, 98, 36]⟩ : ByteArray), (⟨#[123]⟩ : ByteArray)⟩ : S56), (⟨(⟨#[36, 117, 55, 100, 36]⟩ : ByteArray), (⟨#[125]⟩ : ByteArray)⟩ : S56), (⟨(⟨#[36, 117, 55, 101, 36]⟩ : ByteArray), (⟨#[126]⟩ : ByteArray)⟩ : S56), (⟨(⟨#[46, 46]⟩ : ByteArray), (⟨#[58, 58]⟩ : ByteArray)⟩ : S56)] : List (S56))) (inner := [.string (⟨#[36, 83, 80, 36]⟩ : ByteArray), .string (⟨#[64]⟩ : ByteArray), .string (⟨#[36, 66, 80, 36]⟩ : ByteArray), .string (⟨#[42]⟩ : ByteArray), .string (⟨#[36, 82, 70, 36]⟩ : ByteArray), .string (⟨#[38]⟩ : ByteArray), .string (⟨#[36, 76, 84, 36]⟩ : ByteArray), .string (⟨#[60]⟩ : ByteArray), .string (⟨#[36, 71, 84, 36]⟩ : ByteArray), .string (⟨#[62]⟩ : ByteArray), .string (⟨#[36, 76, 80, 36]⟩ : ByteArray), .string (⟨#[40]⟩ : ByteArray), .string (⟨#[36, 82, 80, 36]⟩ : ByteArray), .string (⟨#[41]⟩ : ByteArray), .string (⟨#[36, 67, 36]⟩ : ByteArray), .string (⟨#[44]⟩ : ByteArray), .string (⟨#[36, 117, 50, 48, 36]⟩ : ByteArray), .string (⟨#[32]⟩ : ByteArray), .string (⟨#[36, 117, 50, 50, 36]⟩ : ByteArray), .string (⟨#[34]⟩ : ByteArray), .string (⟨#[36, 117, 50, 55, 36]⟩ : ByteArray), .string (⟨#[39]⟩ : ByteArray), .string (⟨#[36, 117, 50, 98, 36]⟩ : ByteArray), .string (⟨#[43]⟩ : ByteArray), .string (⟨#[36, 117, 51, 98, 36]⟩ : ByteArray), .string (⟨#[59]⟩ : ByteArray), .string (⟨#[36, 117, 53, 98, 36]⟩ : ByteArray), .string (⟨#[91]⟩ : ByteArray), .string (⟨#[36, 117, 53, 100, 36]⟩ : ByteArray), .string (⟨#[93]⟩ : ByteArray), .string (⟨#[36, 117, 55, 98, 36]⟩ : ByteArray), .string (⟨#[123]⟩ : ByteArray), .string (⟨#[36, 117, 55, 100, 36]⟩ : ByteArray), .string (⟨#[125]⟩ : ByteArray), .string (⟨#[36, 117, 55, 101, 36]⟩ : ByteArray), .string (⟨#[126]⟩ : ByteArray), .string (⟨#[46, 46]⟩ : ByteArray), .string (⟨#[58, 58]⟩ : ByteArray)]) (ok := fun _ => True) (okp := fun _ => True) ?hr ?hp (fun _ hk => hk) trivial (Below.refl _ _) (Nat.le_refl _) (by simp) ?_; (case hd => rfl); (case hg => rfl); (case hr => first | (go_simp; done) | (go_simp; rfl)); (case hp => exact (Reps.c2 (show Kd.M k56 _ _ _ (⟨(⟨#[36, 83, 80, 36]⟩ : ByteArray), (⟨#[64]⟩ : ByteArray)⟩ : S56) [.string (⟨#[36, 83, 80, 36]⟩ : ByteArray), .string (⟨#[64]⟩ : ByteArray)] from (k56_mkM _ _ _ (⟨(⟨#[36, 83, 80, 36]⟩ : ByteArray), (⟨#[64]⟩ : ByteArray)⟩ : S56) )) (Reps.c2 (show Kd.M k56 _ _ _ (⟨(⟨#[36, 66, 80, 36]⟩ : ByteArray), (⟨#[42]⟩ : ByteArray)⟩ : S56) [.string (⟨#[36, 66, 80, 36]⟩ : ByteArray), .string (⟨#[42]⟩ : ByteArray)] from (k56_mkM _ _ _ (⟨(⟨#[36, 66, 80, 36]⟩ : ByteArray), (⟨#[42]⟩ : ByteArray)⟩ : S56) )) (Reps.c2 (show Kd.M k56 _ _ _ (⟨(⟨#[36, 82, 70, 36]⟩ : ByteArray), (⟨#[38]⟩ : ByteArray)⟩ : S56) [.string (⟨#[36, 82, 70, 36]⟩ : ByteArray), .string (⟨#[38]⟩ : ByteArray)] from (k56_mkM _ _ _ (⟨(⟨#[36, 82, 70, 36]⟩ : ByteArray), (⟨#[38]⟩ : ByteArray)⟩ : S56) )) (Reps.c2 (show Kd.M k56 _ _ _ (⟨(⟨#[36, 76, 84, 36]⟩ : ByteArray), (⟨#[60]⟩ : ByteArray)⟩ : S56) [.string (⟨#[36, 76, 84, 36]⟩ : ByteArray), .string (⟨#[60]⟩ : ByteArray)] from (k56_mkM _ _ _ (⟨(⟨#[36, 76, 84, 36]⟩ : ByteArray), (⟨#[60]⟩ : ByteArray)⟩ : S56) )) (Reps.c2 (show Kd.M k56 _ _ _ (⟨(⟨#[36, 71, 84, 36]⟩ : ByteArray), (⟨#[62]⟩ : ByteArray)⟩ : S56) [.string (⟨#[36, 71, 84, 36]⟩ : ByteArray), .string (⟨#[62]⟩ : ByteArray)] from (k56_mkM _ _ _ (⟨(⟨#[36, 71, 84, 36]⟩ : ByteArray), (⟨#[62]⟩ : ByteArray)⟩ : S56) )) (Reps.c2 (show Kd.M k56 _ _ _ (⟨(⟨#[36, 76, 80, 36]⟩ : ByteArray), (⟨#[40]⟩ : ByteArray)⟩ : S56) [.string (⟨#[36, 76, 80, 36]⟩ : ByteArray), .string (⟨#[40]⟩ : ByteArray)] from (k56_mkM _ _ _ (⟨(⟨#[36, 76, 80, 36]⟩ : ByteArray), (⟨#[40]⟩ : ByteArray)⟩ : S56) )) (Reps.c2 (show Kd.M k56 _ _ _ (⟨(⟨#[36, 82, 80, 36]⟩ : ByteArray), (⟨#[41]⟩ : ByteArray)⟩ : S56) [.string (⟨#[36, 82, 80, 36]⟩ : ByteArray), .string (⟨#[41]⟩ : ByteArray)] from (k56_mkM _ _ _ (⟨(⟨#[36, 82, 80, 36]⟩ : ByteArray), (⟨#[41]⟩ : ByteArray)⟩ : S56) )) (Reps.c2 (show Kd.M k56 _ _ _ (⟨(⟨#[36, 67, 36]⟩ : ByteArray), (⟨#[44]⟩ : ByteArray)⟩ : S56) [.string (⟨#[36, 67, 36]⟩ : ByteArray), .string (⟨#[44]⟩ : ByteArray)] from (k56_mkM _ _ _ (⟨(⟨#[36, 67, 36]⟩ : ByteArray), (⟨#[44]⟩ : ByteArray)⟩ : S56) )) (Reps.c2 (show Kd.M k56 _ _ _ (⟨(⟨#[36, 117, 50, 48, 36]⟩ : ByteArray), (⟨#[32]⟩ : ByteArray)⟩ : S56) [.string (⟨#[36, 117, 50, 48, 36]⟩ : ByteArray), .string (⟨#[32]⟩ : ByteArray)] from (k56_mkM _ _ _ (⟨(⟨#[36, 117, 50, 48, 36]⟩ : ByteArray), (⟨#[32]⟩ : ByteArray)⟩ : S56) )) (Reps.c2 (show Kd.M k56 _ _ _ (⟨(⟨#[36, 117, 50, 50, 36]⟩ : ByteArray), (⟨#[34]⟩ : ByteArray)⟩ : S56) [.string (⟨#[36, 117, 50, 50, 36]⟩ : ByteArray), .string (⟨#[34]⟩ : ByteArray)] from (k56_mkM _ _ _ (⟨(⟨#[36, 117, 50, 50, 36]⟩ : ByteArray), (⟨#[34]⟩ : ByteArray)⟩ : S56) )) (Reps.c2 (show Kd.M k56 _ _ _ (⟨(⟨#[36, 117, 50, 55, 36]⟩ : ByteArray), (⟨#[39]⟩ : ByteArray)⟩ : S56) [.string (⟨#[36, 117, 50, 55, 36]⟩ : ByteArray), .string (⟨#[39]⟩ : ByteArray)] from (k56_mkM _ _ _ (⟨(⟨#[36, 117, 50, 55, 36]⟩ : ByteArray), (⟨#[39]⟩ : ByteArray)⟩ : S56) )) (Reps.c2 (show Kd.M k56 _ _ _ (⟨(⟨#[36, 117, 50, 98, 36]⟩ : ByteArray), (⟨#[43]⟩ : ByteArray)⟩ : S56) [.string (⟨#[36, 117, 50, 98, 36]⟩ : ByteArray), .string (⟨#[43]⟩ : ByteArray)] from (k56_mkM _ _ _ (⟨(⟨#[36, 117, 50, 98, 36]⟩ : ByteArray), (⟨#[43]⟩ : ByteArray)⟩ : S56) )) (Reps.c2 (show Kd.M k56 _ _ _ (⟨(⟨#[36, 117, 51, 98, 36]⟩ : ByteArray), (⟨#[59]⟩ : ByteArray)⟩ : S56) [.string (⟨#[36, 117, 51, 98, 36]⟩ : ByteArray), .string (⟨#[59]⟩ : ByteArray)] from (k56_mkM _ _ _ (⟨(⟨#[36, 117, 51, 98, 36]⟩ : ByteArray), (⟨#[59]⟩ : ByteArray)⟩ : S56) )) (Reps.c2 (show Kd.M k56 _ _ _ (⟨(⟨#[36, 117, 53, 98, 36]⟩ : ByteArray), (⟨#[91]⟩ : ByteArray)⟩ : S56) [.string (⟨#[36, 117, 53, 98, 36]⟩ : ByteArray), .string (⟨#[91]⟩ : ByteArray)] from (k56_mkM _ _ _ (⟨(⟨#[36, 117, 53, 98, 36]⟩ : ByteArray), (⟨#[91]⟩ : ByteArray)⟩ : S56) )) (Reps.c2 (show Kd.M k56 _ _ _ (⟨(⟨#[36, 117, 53, 100, 36]⟩ : ByteArray), (⟨#[93]⟩ : ByteArray)⟩ : S56) [.string (⟨#[36, 117, 53, 100, 36]⟩ : ByteArray), .string (⟨#[93]⟩ : ByteArray)] from (k56_mkM _ _ _ (⟨(⟨#[36, 117, 53, 100, 36]⟩ : ByteArray), (⟨#[93]⟩ : ByteArray)⟩ : S56) )) (Reps.c2 (show Kd.M k56 _ _ _ (⟨(⟨#[36, 117, 55, 98, 36]⟩ : ByteArray), (⟨#[123]⟩ : ByteArray)⟩ : S56) [.string (⟨#[36, 117, 55, 98, 36]⟩ : ByteArray), .string (⟨#[123]⟩ : ByteArray)] from (k56_mkM _ _ _ (⟨(⟨#[36, 117, 55, 98, 36]⟩ : ByteArray), (⟨#[123]⟩ : ByteArray)⟩ : S56) )) (Reps.c2 (show Kd.M k56 _ _ _ (⟨(⟨#[36, 117, 55, 100, 36]⟩ : ByteArray), (⟨#[125]⟩ : ByteArray)⟩ : S56) [.string (⟨#[36, 117, 55, 100, 36]⟩ : ByteArray), .string (⟨#[125]⟩ : ByteArray)] from (k56_mkM _ _ _ (⟨(⟨#[36, 117, 55, 100, 36]⟩ : ByteArray), (⟨#[125]⟩ : ByteArray)⟩ : S56) )) (Reps.c2 (show Kd.M k56 _ _ _ (⟨(⟨#[36, 117, 55, 101, 36]⟩ : ByteArray), (⟨#[126]⟩ : ByteArray)⟩ : S56) [.string (⟨#[36, 117, 55, 101, 36]⟩ : ByteArray), .string (⟨#[126]⟩ : ByteArray)] from (k56_mkM _ _ _ (⟨(⟨#[36, 117, 55, 101, 36]⟩ : ByteArray), (⟨#[126]⟩ : ByteArray)⟩ : S56) )) (Reps.c2 (show Kd.M k56 _ _ _ (⟨(⟨#[46, 46]⟩ : ByteArray), (⟨#[58, 58]⟩ : ByteArray)⟩ : S56) [.string (⟨#[46, 46]⟩ : ByteArray), .string (⟨#[58, 58]⟩ : ByteArray)] from (k56_mkM _ _ _ (⟨(⟨#[46, 46]⟩ : ByteArray), (⟨#[58, 58]⟩ : ByteArray)⟩ : S56) )) (Reps.none _ _))))))))))))))))))))); intro v110 w1 ho2 hb hg_ hnew_; clear hg_ hnew_; (first | rw [← Ny109.out] at ho2 | (simp only [Int.reduceToNat] at ho2; rw [← Ny109.out] at ho2)); have n0_ := Aside0.mk (Kd.R_lower ho2 (below_size (by repeat (first | (with_reducible first | exact HB.out | apply below_alloc | apply pw_below_drewN | apply below_drew1) | exact HB.out)))); have n1_ := Aside0.mk (below_step (by repeat (first | (with_reducible first | exact HB.out | apply below_alloc | apply pw_below_drewN | apply below_drew1) | exact HB.out)) hb); clear HB; have HO111 := n0_; have HB := n1_; clear n0_ n1_; clear hb ho2))
  go_ret
  exact ⟨_, by first | rfl | (simp [errW_none, errW_some] <;> rfl) | (simp [*, errW_none, errW_some] <;> rfl), by (with_reducible repeat (first | apply Kd.R_alloc | apply Kd.R_drewN | apply Kd.R_drew)); exact HO111.out, by repeat (first | (with_reducible first | exact HB.out | apply below_alloc | apply pw_below_drewN | apply below_drew1) | exact HB.out)⟩

/-! ### laws_idAt: function 34 -/
def laws_idAt.f (a0 : Int) (a1 : Int) : Option (Int) := if a1 = 0 then (none) else (some (Int.tmod (wrap64 ((Int.tmod a0 a1) + a1)) a1))
set_option maxHeartbeats 8000000 in
set_option maxRecDepth 100000 in
theorem laws_idAt.calls (a0 : Int) (a1 : Int) (r : Int) (w : World) (h : laws_idAt.f a0 a1 = some r) :
    Calls Tryd.prog 34 #[.int .i64 a0, .int .i64 a1] w fun e w' => e = .returned (.int .i64 r) ∧ Drawn0 w w' := by
  have H : (if a1 = 0 then (none) else (some (Int.tmod (wrap64 ((Int.tmod a0 a1) + a1)) a1))) = some r := h
  clear h
  by_cases c3 : a1 = 0
  · rw [if_pos c3] at H
    exact absurd H (by simp)
  · rw [if_neg c3] at H
    have c3b0 : (a1 == 0) = false := beq_eq_false_iff_ne.mpr c3
    have c3b1 : (a1 != 0) = true := bne_iff_ne.mpr c3
    obtain rfl := Option.some.inj H
    go_enter Tryd.func34, Tryd.ntmps34
    go_wp2
    go_ret
    exact ⟨by first | rfl | (simp; done) | (simp [*]; done), by repeat (first | exact Drawn0.refl _ | apply Drawn0.step)⟩

/-! ### laws_lgPieces: function 46 -/
def laws_lgPieces.l0 : Nat → List (S106) → List Int → Int → Int → Option ((List (S106)))
  | 0, _, _, _, _ => none
  | k + 1, x3, x10, x11, x12 => if x12 < x11 then (if 0 ≤ x12 then (if x12 < (x10.length : Int) then (if x12 ≥ 1000 then (some x3) else ((laws_idAt.f (rd x10 x12) 40).bind fun t116 => ((laws_idAt.f (rd x10 x12) 1099511627776).bind fun t117 => ((spec_LgEscapes.f).bind fun t119 => (if t116 ≥ (t119.length : Int) then ((some (([(wrap64 (Int.tdiv t117 40)) % 256, ((wrap64 (Int.tdiv t117 40)) / 256) % 256] : List Int) : List Int)).bind fun y122 => (if 0 ≤ (wrap64 (1 + (Int.tmod t116 2))) then (if (wrap64 (1 + (Int.tmod t116 2))) ≤ (y122.length : Int) then ((spec_AnWord.f k (y122.take ((wrap64 (1 + (Int.tmod t116 2))) : Int).toNat)).bind fun t129 => (if x3.length < 5864062014805 then (laws_lgPieces.l0 k (x3 ++ [(⟨(-1), t129⟩ : S106)]) x10 x11 (wrap64 (x12 + 1))) else (none))) else (none)) else (none))) else (if x3.length < 5864062014805 then (laws_lgPieces.l0 k (x3 ++ [(⟨t116, (⟨#[]⟩ : ByteArray)⟩ : S106)]) x10 x11 (wrap64 (x12 + 1))) else (none))))))) else (none)) else (none)) else (some x3)
def laws_lgPieces.f (k : Nat) (l0 : List Int) : Option ((List (S106))) := laws_lgPieces.l0 k (([] : List (S106))) l0 (l0.length : Int) 0
theorem laws_lgPieces.mono_l : ∀ k, (∀ y0 y1 y2 y3, LeO (laws_lgPieces.l0 k y0 y1 y2 y3) (laws_lgPieces.l0 (k + 1) y0 y1 y2 y3))
  | 0 => fun _ _ _ _ r h => by simp [laws_lgPieces.l0] at h
  | k + 1 => by
    have ih0 := laws_lgPieces.mono_l k
    · intro y0 y1 y2 y3
      unfold laws_lgPieces.l0
      repeat' first
      | (with_reducible exact ih0 _ _ _ _)
      | (with_reducible exact spec_AnWord.mono _ _)
      | (with_reducible exact LeO.refl _)
      | (with_reducible exact LeO.none _)
      | (with_reducible refine LeO.ite ?_ ?_)
      | (with_reducible refine LeO.bind ?_ (fun _ => ?_))
      | exact ih0 _ _ _ _
      | exact spec_AnWord.mono _ _
      | exact LeO.none _
      | refine LeO.ite ?_ ?_
      | refine LeO.bind ?_ (fun _ => ?_)
theorem laws_lgPieces.mono : ∀ a0 k, LeO (laws_lgPieces.f k a0) (laws_lgPieces.f (k + 1) a0) := by
  intro a0 k
  have ih0 := laws_lgPieces.mono_l k
  unfold laws_lgPieces.f
  repeat' first
      | (with_reducible exact ih0 _ _ _ _)
      | (with_reducible exact spec_AnWord.mono _ _)
      | (with_reducible exact LeO.refl _)
      | (with_reducible exact LeO.none _)
      | (with_reducible refine LeO.ite ?_ ?_)
      | (with_reducible refine LeO.bind ?_ (fun _ => ?_))
      | exact ih0 _ _ _ _
      | exact spec_AnWord.mono _ _
      | exact LeO.none _
      | refine LeO.ite ?_ ?_
      | refine LeO.bind ?_ (fun _ => ?_)
set_option maxHeartbeats 8000000 in
set_option maxRecDepth 100000 in
theorem laws_lgPieces.calls (k : Nat) (A0 : Option Addr) (c0 : Nat) (l0 : List Int) (r : List (S106)) (w : World) (hr0 : Kd.C (Kd.int .i64) w A0 l0.length l0) (hc0 : l0.length ≤ c0) (h : laws_lgPieces.f k l0 = some r) :
    Calls Tryd.prog 46 #[.slice A0 l0.length c0] w fun e w' => ∃ v0_ : Value, e = .returned (v0_) ∧ Kd.R k106 106 w' w.heap.size (fun _ => True) v0_ r ∧ Below w.heap.size w w' := by
  have hu106 := Tryd.underlying106
  have HR0 := Aside0.mk hr0
  have HC0 := Aside0.mk hc0
  clear hr0 hc0
  have HB := Aside0.mk (Below.refl w.heap.size w)
  have H : (laws_lgPieces.l0 k (([] : List (S106))) l0 (l0.length : Int) 0) = some r := h
  clear h
  obtain ⟨y112, hy112⟩ : ∃ y_ : List (S106), y_ = (([] : List (S106))) := ⟨_, rfl⟩
  replace H : (laws_lgPieces.l0 k y112 l0 (l0.length : Int) 0) = some r := by first | (rw [hy112]; with_reducible exact H) | (have H2_ := (Option.bind_some _ _).symm.trans H; rw [hy112]; with_reducible exact H2_) | (have H2_ := (Option.bind_some _ _).symm.trans H; with_reducible exact H2_) | with_reducible exact H | (rw [hy112]; exact H) | exact H
  have Ny112 := Aside0.mk hy112
  clear hy112
  have H' := Aside0.mk H
  clear H
  go_enter Tryd.func46, Tryd.ntmps46
  go_wp2_with (first | (go_at_call 32; refine (idCut_at _ _ _ _ _ _ (by assumption) (by assumption)).mono ?_; rintro e w_ ⟨rfl, rfl⟩) | ((with_reducible refine gate_dst (N := 9) rfl ?_); refine Kd.R_lit k106 _ 106 ?hg (N := 9) ?hd (xs := ([] : List (S106))) (inner := []) (ok := fun _ => True) (okp := fun _ => True) ?hr ?hp (fun _ hk => hk) trivial (Below.refl _ _) (Nat.le_refl _) (by simp) ?_; (case hd => rfl); (case hg => rfl); (case hr => first | (go_simp; done) | (go_simp; rfl)); (case hp => exact (Reps.none _ _)); intro v113 w2 ho3 hb hg_ hnew_; clear hg_ hnew_; (first | rw [← Ny112.out] at ho3 | (simp only [Int.reduceToNat] at ho3; rw [← Ny112.out] at ho3)); have n0_ := Aside0.mk (Kd.R_lower ho3 (below_size (by repeat (first | (with_reducible first | exact HB.out | apply below_alloc | apply pw_below_drewN | apply below_drew1) | exact HB.out)))); have n1_ := Aside0.mk (below_step (by repeat (first | (with_reducible first | exact HB.out | apply below_alloc | apply pw_below_drewN | apply below_drew1) | exact HB.out)) hb); clear HB; have HO114 := n0_; have HB := n1_; clear n0_ n1_; clear hb ho3))
  go_loopg [3, 12] k (fun kq v3 v12 w' => ∃ (x3_1 : List (S106)) (x12_1 : Int), v12 = .int .i64 x12_1 ∧ Aside0 (laws_lgPieces.l0 kq x3_1 l0 (l0.length : Int) x12_1 = some r) ∧ Aside0 (kq ≤ k) ∧ Aside0 (Kd.R k106 106 w' w.heap.size (fun _ => True) v3 x3_1) ∧ Aside0 (Below w.heap.size w w'))
  case atStart => exact ⟨(y112), (0), (by first | rfl | (simp; done) | (simp [*]; done)), H', ⟨Nat.le_refl _⟩, ⟨by (with_reducible repeat (first | apply Kd.R_alloc | apply Kd.R_drewN | apply Kd.R_drew)); exact HO114.out⟩, ⟨by repeat (first | (with_reducible first | exact HB.out | apply below_alloc | apply pw_below_drewN | apply below_drew1) | exact HB.out)⟩⟩
  case round =>
    clear H'
    try clear p2
    obtain ⟨x3_1, x12_1, rfl, HA, HK1, HO_3, HB⟩ := hrel
    cases gk with
    | zero => exact absurd HA.out (by simp [laws_lgPieces.l0])
    | succ k1 =>
      have H := HA.out
      clear HA
      simp only [laws_lgPieces.l0] at H
      by_cases c4 : x12_1 < (l0.length : Int)
      · rw [if_pos c4] at H
        have c4b0 : decide (x12_1 < (l0.length : Int)) = true := decide_eq_true c4
        clear c4
        by_cases c5 : 0 ≤ x12_1
        · rw [if_pos c5] at H
          have c5b0 : decide (0 ≤ x12_1) = true := decide_eq_true c5
          clear c5
          by_cases c6 : x12_1 < (l0.length : Int)
          · rw [if_pos c6] at H
            have c6b0 : decide (x12_1 < (l0.length : Int)) = true := decide_eq_true c6
            clear c6
            by_cases c7 : x12_1 ≥ 1000
            · rw [if_pos c7] at H
              have c7b0 : decide (1000 ≤ x12_1) = true := decide_eq_true c7
              clear c7
              obtain rfl := Option.some.inj H
              have p115 : 0 ≤ (x12_1 : Int) := of_decide_eq_true (by first | (with_reducible assumption) | assumption)
              have q115 : x12_1 < (l0.length : Int) := of_decide_eq_true (by first | (with_reducible assumption) | assumption)
              obtain ⟨ad115, e115, hx115_0⟩ := Kd.at_int HR0.out x12_1 p115 q115
              cases e115
              replace hx115_0 := (HB.out.cell (World.block_lt_of_cell? w _ hx115_0)).trans hx115_0
              replace p115 := eq_true p115
              replace q115 := eq_true q115
              go_wp2
              go_ret
              exact ⟨_, by first | rfl | (simp [errW_none, errW_some] <;> rfl) | (simp [*, errW_none, errW_some] <;> rfl), by (with_reducible repeat (first | apply Kd.R_alloc | apply Kd.R_drewN | apply Kd.R_drew)); exact HO_3.out, by repeat (first | (with_reducible first | exact HB.out | apply below_alloc | apply pw_below_drewN | apply below_drew1) | exact HB.out)⟩
            · rw [if_neg c7] at H
              have c7b0 : decide (1000 ≤ x12_1) = false := decide_eq_false c7
              clear c7
              replace H := Option.bind_eq_some_iff.mp H
              obtain ⟨t116, A80, H⟩ := H
              replace H : ((laws_idAt.f (rd l0 x12_1) 1099511627776).bind fun t117 => ((spec_LgEscapes.f).bind fun t119 => (if t116 ≥ (t119.length : Int) then ((some (([(wrap64 (Int.tdiv t117 40)) % 256, ((wrap64 (Int.tdiv t117 40)) / 256) % 256] : List Int) : List Int)).bind fun y122 => (if 0 ≤ (wrap64 (1 + (Int.tmod t116 2))) then (if (wrap64 (1 + (Int.tmod t116 2))) ≤ (y122.length : Int) then ((spec_AnWord.f k1 (y122.take ((wrap64 (1 + (Int.tmod t116 2))) : Int).toNat)).bind fun t129 => (if x3_1.length < 5864062014805 then (laws_lgPieces.l0 k1 (x3_1 ++ [(⟨(-1), t129⟩ : S106)]) l0 (l0.length : Int) (wrap64 (x12_1 + 1))) else (none))) else (none)) else (none))) else (if x3_1.length < 5864062014805 then (laws_lgPieces.l0 k1 (x3_1 ++ [(⟨t116, (⟨#[]⟩ : ByteArray)⟩ : S106)]) l0 (l0.length : Int) (wrap64 (x12_1 + 1))) else (none))))) = some r := H
              have A8 := Aside0.mk A80
              clear A80
              replace H := Option.bind_eq_some_iff.mp H
              obtain ⟨t117, A90, H⟩ := H
              replace H : ((spec_LgEscapes.f).bind fun t119 => (if t116 ≥ (t119.length : Int) then ((some (([(wrap64 (Int.tdiv t117 40)) % 256, ((wrap64 (Int.tdiv t117 40)) / 256) % 256] : List Int) : List Int)).bind fun y122 => (if 0 ≤ (wrap64 (1 + (Int.tmod t116 2))) then (if (wrap64 (1 + (Int.tmod t116 2))) ≤ (y122.length : Int) then ((spec_AnWord.f k1 (y122.take ((wrap64 (1 + (Int.tmod t116 2))) : Int).toNat)).bind fun t129 => (if x3_1.length < 5864062014805 then (laws_lgPieces.l0 k1 (x3_1 ++ [(⟨(-1), t129⟩ : S106)]) l0 (l0.length : Int) (wrap64 (x12_1 + 1))) else (none))) else (none)) else (none))) else (if x3_1.length < 5864062014805 then (laws_lgPieces.l0 k1 (x3_1 ++ [(⟨t116, (⟨#[]⟩ : ByteArray)⟩ : S106)]) l0 (l0.length : Int) (wrap64 (x12_1 + 1))) else (none)))) = some r := H
              have A9 := Aside0.mk A90
              clear A90
              replace H := Option.bind_eq_some_iff.mp H
              obtain ⟨t119, A100, H⟩ := H
              replace H : (if t116 ≥ (t119.length : Int) then ((some (([(wrap64 (Int.tdiv t117 40)) % 256, ((wrap64 (Int.tdiv t117 40)) / 256) % 256] : List Int) : List Int)).bind fun y122 => (if 0 ≤ (wrap64 (1 + (Int.tmod t116 2))) then (if (wrap64 (1 + (Int.tmod t116 2))) ≤ (y122.length : Int) then ((spec_AnWord.f k1 (y122.take ((wrap64 (1 + (Int.tmod t116 2))) : Int).toNat)).bind fun t129 => (if x3_1.length < 5864062014805 then (laws_lgPieces.l0 k1 (x3_1 ++ [(⟨(-1), t129⟩ : S106)]) l0 (l0.length : Int) (wrap64 (x12_1 + 1))) else (none))) else (none)) else (none))) else (if x3_1.length < 5864062014805 then (laws_lgPieces.l0 k1 (x3_1 ++ [(⟨t116, (⟨#[]⟩ : ByteArray)⟩ : S106)]) l0 (l0.length : Int) (wrap64 (x12_1 + 1))) else (none))) = some r := H
              have A10 := Aside0.mk A100
              clear A100
              by_cases c11 : t116 ≥ (t119.length : Int)
              · rw [if_pos c11] at H
                have c11b0 : decide ((t119.length : Int) ≤ t116) = true := decide_eq_true c11
                clear c11
                obtain ⟨y122, hy122⟩ : ∃ y_ : List Int, y_ = (([(wrap64 (Int.tdiv t117 40)) % 256, ((wrap64 (Int.tdiv t117 40)) / 256) % 256] : List Int)) := ⟨_, rfl⟩
                replace H : (if 0 ≤ (wrap64 (1 + (Int.tmod t116 2))) then (if (wrap64 (1 + (Int.tmod t116 2))) ≤ (y122.length : Int) then ((spec_AnWord.f k1 (y122.take ((wrap64 (1 + (Int.tmod t116 2))) : Int).toNat)).bind fun t129 => (if x3_1.length < 5864062014805 then (laws_lgPieces.l0 k1 (x3_1 ++ [(⟨(-1), t129⟩ : S106)]) l0 (l0.length : Int) (wrap64 (x12_1 + 1))) else (none))) else (none)) else (none)) = some r := by first | (rw [hy122]; with_reducible exact H) | (have H2_ := (Option.bind_some _ _).symm.trans H; rw [hy122]; with_reducible exact H2_) | (have H2_ := (Option.bind_some _ _).symm.trans H; with_reducible exact H2_) | with_reducible exact H | (rw [hy122]; exact H) | exact H
                have Ny122 := Aside0.mk hy122
                clear hy122
                obtain ⟨ji12, hji12⟩ : ∃ j_ : Int, (wrap64 (1 + (Int.tmod t116 2))) = j_ := ⟨_, rfl⟩
                replace H : (if 0 ≤ (ji12) then (if (ji12) ≤ (y122.length : Int) then ((spec_AnWord.f k1 (y122.take ((ji12) : Int).toNat)).bind fun t129 => (if x3_1.length < 5864062014805 then (laws_lgPieces.l0 k1 (x3_1 ++ [(⟨(-1), t129⟩ : S106)]) l0 (l0.length : Int) (wrap64 (x12_1 + 1))) else (none))) else (none)) else (none)) = some r := by first | (rw [hji12] at H; exact H) | (simp only [hji12] at H ⊢; exact H)
                (try rw [hji12] at A8)
                (try rw [hji12] at A9)
                (try rw [hji12] at A10)
                have hji12w : (IntKind.i64.wrap (1 + (Int.tmod t116 2))) = ji12 := (i64_w _).trans hji12
                by_cases c13 : 0 ≤ (ji12)
                · rw [if_pos c13] at H
                  have c13b0 := eq_true c13
                  have c13b1 : decide (0 ≤ (ji12)) = true := decide_eq_true c13
                  clear c13
                  by_cases c14 : (ji12) ≤ (y122.length : Int)
                  · rw [if_pos c14] at H
                    have c14b0 := eq_true c14
                    have c14b1 : decide ((ji12) ≤ (y122.length : Int)) = true := decide_eq_true c14
                    clear c14
                    obtain ⟨y125, hy125⟩ : ∃ y_ : List Int, y_ = (y122.take ((ji12) : Int).toNat) := ⟨_, rfl⟩
                    replace H : ((spec_AnWord.f k1 y125).bind fun t129 => (if x3_1.length < 5864062014805 then (laws_lgPieces.l0 k1 (x3_1 ++ [(⟨(-1), t129⟩ : S106)]) l0 (l0.length : Int) (wrap64 (x12_1 + 1))) else (none))) = some r := by first | (rw [hy125]; with_reducible exact H) | (have H2_ := (Option.bind_some _ _).symm.trans H; rw [hy125]; with_reducible exact H2_) | (have H2_ := (Option.bind_some _ _).symm.trans H; with_reducible exact H2_) | with_reducible exact H | (rw [hy125]; exact H) | exact H
                    have Ny125 := Aside0.mk hy125
                    clear hy125
                    replace H := Option.bind_eq_some_iff.mp H
                    obtain ⟨t129, A150, H⟩ := H
                    replace H : (if x3_1.length < 5864062014805 then (laws_lgPieces.l0 k1 (x3_1 ++ [(⟨(-1), t129⟩ : S106)]) l0 (l0.length : Int) (wrap64 (x12_1 + 1))) else (none)) = some r := H
                    have A15 := Aside0.mk A150
                    clear A150
                    by_cases c16 : x3_1.length < 5864062014805
                    · rw [if_pos c16] at H
                      have LMc16 := Aside0.mk c16
                      clear c16
                      obtain ⟨y130, hy130⟩ : ∃ y_ : List (S106), y_ = (x3_1 ++ [(⟨(-1), t129⟩ : S106)]) := ⟨_, rfl⟩
                      replace H : (laws_lgPieces.l0 k1 y130 l0 (l0.length : Int) (wrap64 (x12_1 + 1))) = some r := by first | (rw [hy130]; with_reducible exact H) | (have H2_ := (Option.bind_some _ _).symm.trans H; rw [hy130]; with_reducible exact H2_) | (have H2_ := (Option.bind_some _ _).symm.trans H; with_reducible exact H2_) | with_reducible exact H | (rw [hy130]; exact H) | exact H
                      have Ny130 := Aside0.mk hy130
                      clear hy130
                      have H' := Aside0.mk H
                      clear H
                      have p115 : 0 ≤ (x12_1 : Int) := of_decide_eq_true (by first | (with_reducible assumption) | assumption)
                      have q115 : x12_1 < (l0.length : Int) := of_decide_eq_true (by first | (with_reducible assumption) | assumption)
                      obtain ⟨ad115, e115, hx115_0⟩ := Kd.at_int HR0.out x12_1 p115 q115
                      cases e115
                      replace hx115_0 := (HB.out.cell (World.block_lt_of_cell? w _ hx115_0)).trans hx115_0
                      replace p115 := eq_true p115
                      replace q115 := eq_true q115
                      go_wp2_with (first | (go_at_call 32; refine (idCut_at _ _ _ _ _ _ (by assumption) (by assumption)).mono ?_; rintro e w_ ⟨rfl, rfl⟩) | ((with_reducible refine gate_callee (f := 34) rfl ?_); refine goesL_ (some 20) rfl rfl Tryd.func34 (by kernel_rfl) rfl #[.int .i64 (rd l0 x12_1), .int .i64 40] rfl (by (try simp only [List.map_toArray, List.map_cons, List.map_nil]); first | done | rfl | (simp only [List.length_drop, List.length_take]; rfl)) ?_; (with_reducible refine (laws_idAt.calls (rd l0 x12_1) 40 t116 _ A8.out).mono ?_); rintro e w' ⟨rfl, ⟨nd, rfl⟩⟩; refine ⟨_, rfl, ?_⟩; (try (rw [drewN_self wr]; generalize hq_ : World.drewN wr _ = wr; have n0_ : Aside0 (Kd.R k106 106 wr w.heap.size (fun _ => True) u3 x3_1) := ⟨by rw [← hq_]; exact (by (with_reducible repeat (first | apply Kd.R_alloc | apply Kd.R_drewN | apply Kd.R_drew)); exact HO_3.out)⟩; have n1_ : Aside0 (Below w.heap.size w wr) := ⟨by rw [← hq_]; exact (by repeat (first | (with_reducible first | exact HB.out | apply below_alloc | apply pw_below_drewN | apply below_drew1) | exact HB.out))⟩; clear HO_3 HB hq_; have HO_3 := n0_; have HB := n1_; clear n0_ n1_))) | ((with_reducible refine gate_callee (f := 34) rfl ?_); refine goesL_ (some 22) rfl rfl Tryd.func34 (by kernel_rfl) rfl #[.int .i64 (rd l0 x12_1), .int .i64 1099511627776] rfl (by (try simp only [List.map_toArray, List.map_cons, List.map_nil]); first | done | rfl | (simp only [List.length_drop, List.length_take]; rfl)) ?_; (with_reducible refine (laws_idAt.calls (rd l0 x12_1) 1099511627776 t117 _ A9.out).mono ?_); rintro e w' ⟨rfl, ⟨nd, rfl⟩⟩; refine ⟨_, rfl, ?_⟩; (try (rw [drewN_self wr]; generalize hq_ : World.drewN wr _ = wr; have n0_ : Aside0 (Kd.R k106 106 wr w.heap.size (fun _ => True) u3 x3_1) := ⟨by rw [← hq_]; exact (by (with_reducible repeat (first | apply Kd.R_alloc | apply Kd.R_drewN | apply Kd.R_drew)); exact HO_3.out)⟩; have n1_ : Aside0 (Below w.heap.size w wr) := ⟨by rw [← hq_]; exact (by repeat (first | (with_reducible first | exact HB.out | apply below_alloc | apply pw_below_drewN | apply below_drew1) | exact HB.out))⟩; clear HO_3 HB hq_; have HO_3 := n0_; have HB := n1_; clear n0_ n1_))) | ((with_reducible refine gate_dst (N := 8) rfl ?_); refine box_event ?hg (N := 8) ?hd (cs := #[.int .i64 0, .string (⟨#[]⟩ : ByteArray)]) (t := 106) ?hr ?_; (case hd => rfl); (case hg => rfl); (case hr => first | (go_simp; done) | (go_simp; rfl)); intro gb118 hg w17 hbox hb; have n0_ := Aside0.mk (Kd.R_below (Kd.R_elderB (by (with_reducible repeat (first | apply Kd.R_alloc | apply Kd.R_drewN | apply Kd.R_drew)); exact HO_3.out) gb118 (Nat.le_of_eq hg.symm)) hb); have n1_ := Aside0.mk (below_step (by repeat (first | (with_reducible first | exact HB.out | apply below_alloc | apply pw_below_drewN | apply below_drew1) | exact HB.out)) hb); have n2_ := Aside0.mk (hbox); have n3_ := Aside0.mk ((by rw [hg]; exact (below_size (by repeat (first | (with_reducible first | exact HB.out | apply below_alloc | apply pw_below_drewN | apply below_drew1) | exact HB.out))) : w.heap.size ≤ gb118)); have n4_ := Aside0.mk ((by rw [hg]; exact (below_size (by repeat (first | (with_reducible first | exact HB.out | apply below_alloc | apply pw_below_drewN | apply below_drew1) | exact HB.out))) : w.heap.size ≤ gb118)); clear HO_3; clear HB; have HO_3 := n0_; have HB := n1_; have BK118 := n2_; have GW118 := n3_; have GE118 := n4_; clear n0_ n1_ n2_ n3_ n4_; clear hb hbox hg; have hcz18_0 : w17.cell? ⟨gb118, 0, none⟩ = some (.int .i64 0) := (blk_cell BK118.out 0).trans rfl; have hcz18_1 : w17.cell? ⟨gb118, 1, none⟩ = some (.string (⟨#[]⟩ : ByteArray)) := (blk_cell BK118.out 1).trans rfl; have hfz18_0 := blk_frozen BK118.out 0; have hfz18_1 := blk_frozen BK118.out 1) | ((with_reducible refine gate_callee (f := 33) rfl ?_); refine goesL_ (some 27) rfl rfl Tryd.func33 (by kernel_rfl) rfl #[] rfl (by (try simp only [List.map_toArray, List.map_cons, List.map_nil]); first | done | rfl | (simp only [List.length_drop, List.length_take]; rfl)) ?_; (with_reducible refine (spec_LgEscapes.calls  t119 _ A10.out).mono ?_); rintro e w19 ⟨v120, rfl, ho0, hb⟩; refine ⟨_, rfl, ?_⟩; have n0_ := Aside0.mk (Kd.R_below (by (with_reducible repeat (first | apply Kd.R_alloc | apply Kd.R_drewN | apply Kd.R_drew)); exact (Kd.R_mono (Kd.R_far (p := ⟨gb118, 1, none⟩) (Kd.R_far (p := ⟨gb118, 0, none⟩) (Kd.R_mono HO_3.out (fun k_ hk => (⟨hk, hk.2⟩ : _ ∧ k_ ≠ gb118))) (fun _ hk => hk.2) (.int .i64 t116)) (fun _ hk => hk.2) (.string (⟨#[]⟩ : ByteArray))) (fun _ h_ => h_.1))) hb); have n1_ := Aside0.mk (Kd.R_lower ho0 (below_size (by repeat (first | (with_reducible first | exact HB.out | apply below_alloc | apply pw_below_drewN | apply below_drew1 | refine below_set ?_ GE118.out) | exact HB.out)))); have n2_ := Aside0.mk (blk_below (g := gb118) (o := .cells #[.int .i64 t116, .string (⟨#[]⟩ : ByteArray)] 106 (0, 0)) (by (with_reducible repeat (first | refine blk_drewN ?_ _ | refine blk_drew ?_ | refine blk_alloc ?_ _)); refine blk_put (cs := #[.int .i64 t116, .string (⟨#[]⟩ : ByteArray)]) ?_ 1 _ rfl; (with_reducible repeat (first | refine blk_drewN ?_ _ | refine blk_drew ?_ | refine blk_alloc ?_ _)); refine blk_put (cs := #[.int .i64 0, .string (⟨#[]⟩ : ByteArray)]) ?_ 0 _ rfl; (with_reducible repeat (first | refine blk_drewN ?_ _ | refine blk_drew ?_ | refine blk_alloc ?_ _)); exact BK118.out) hb); have n3_ := Aside0.mk (below_step (by repeat (first | (with_reducible first | exact HB.out | apply below_alloc | apply pw_below_drewN | apply below_drew1 | refine below_set ?_ GE118.out) | exact HB.out)) hb); clear HO_3; clear BK118; clear HB; have HO_3 := n0_; have HO121 := n1_; have BK118 := n2_; have HB := n3_; clear n0_ n1_ n2_ n3_; (try clear hb); (try clear hb2); (try clear hk); (try clear hi); (try clear ho0); obtain ⟨Ao20, co20, eo20⟩ := Kd.R_slice HO121.out; subst eo20) | ((with_reducible refine gate_dst (N := 35) rfl ?_); refine Kd.R_lit (Kd.int .u8) _ 5 ?hg (N := 35) ?hd (xs := ([(wrap64 (Int.tdiv t117 40)) % 256, ((wrap64 (Int.tdiv t117 40)) / 256) % 256] : List Int)) (inner := [.int .u8 ((wrap64 (Int.tdiv t117 40)) % 256), .int .u8 (((wrap64 (Int.tdiv t117 40)) / 256) % 256)]) (ok := fun _ => True) (okp := fun _ => True) ?hr ?hp (fun _ hk => hk) trivial (Below.refl _ _) (Nat.le_refl _) (by simp) ?_; (case hd => rfl); (case hg => rfl); (case hr => first | (go_simp; done) | (go_simp; rfl)); (case hp => exact (Reps.one (show Kd.M (Kd.int .u8) _ _ _ ((wrap64 (Int.tdiv t117 40)) % 256) [.int .u8 ((wrap64 (Int.tdiv t117 40)) % 256)] from rfl) (Reps.one (show Kd.M (Kd.int .u8) _ _ _ (((wrap64 (Int.tdiv t117 40)) / 256) % 256) [.int .u8 (((wrap64 (Int.tdiv t117 40)) / 256) % 256)] from rfl) (Reps.none _ _)))); intro v123 w21 ho22 hb hg_ hnew_; clear hg_ hnew_; (first | rw [← Ny122.out] at ho22 | (simp only [Int.reduceToNat] at ho22; rw [← Ny122.out] at ho22)); have n0_ := Aside0.mk (Kd.R_below (by (with_reducible repeat (first | apply Kd.R_alloc | apply Kd.R_drewN | apply Kd.R_drew)); exact HO_3.out) hb); have n1_ := Aside0.mk (Kd.R_below (by (with_reducible repeat (first | apply Kd.R_alloc | apply Kd.R_drewN | apply Kd.R_drew)); exact HO121.out) hb); have n2_ := Aside0.mk (Kd.R_lower ho22 (below_size (by repeat (first | (with_reducible first | exact HB.out | apply below_alloc | apply pw_below_drewN | apply below_drew1 | refine below_set ?_ GE118.out) | exact HB.out)))); have n3_ := Aside0.mk (blk_below (g := gb118) (o := .cells #[.int .i64 t116, .string (⟨#[]⟩ : ByteArray)] 106 (0, 0)) (by (with_reducible repeat (first | refine blk_drewN ?_ _ | refine blk_drew ?_ | refine blk_alloc ?_ _)); exact BK118.out) hb); have n4_ := Aside0.mk (below_step (by repeat (first | (with_reducible first | exact HB.out | apply below_alloc | apply pw_below_drewN | apply below_drew1 | refine below_set ?_ GE118.out) | exact HB.out)) hb); clear HO_3; clear HO121; clear BK118; clear HB; have HO_3 := n0_; have HO121 := n1_; have HO124 := n2_; have BK118 := n3_; have HB := n4_; clear n0_ n1_ n2_ n3_ n4_; clear hb ho22; obtain ⟨Ao24, co24, eo24⟩ := Kd.R_slice HO124.out; subst eo24; have q23 : ((ji12) : Int) ≤ ((y122.length : Int) : Int) := of_decide_eq_true (by first | (with_reducible assumption) | assumption); obtain ⟨i023, hi023, _, hsz23, _⟩ := info_parts info5; have hroom23 : y122.length ≤ co24 := (Kd.R_reads' HO124.out).2.1; have hC23 : Kd.C (Kd.int .u8) _ Ao24 y122.length y122 := (Kd.R_reads' HO124.out).2.2; have hcut23 := cut_to (P := Tryd.prog) 27 5 .i64 Tryd.underlying27 hi023 Ao24 y122.length co24 (ji12) (of_decide_eq_true (by first | (with_reducible assumption) | assumption)) q23 hroom23; have hr23 := Kd.C_take (m := ((ji12) : Int).toNat) hC23 (by omega); have hy23 : y125.length = ((ji12) : Int).toNat := (by rw [Ny125.out, List.length_take]; omega); rw [← Ny125.out] at hr23; rw [← hy23] at hcut23; have HR128 := Aside0.mk hr23; have HC128 := Aside0.mk (show y125.length ≤ co24 from by omega); clear hr23 hC23 hroom23 hi023 hsz23; have KY23 := Aside0.mk hy23; clear hy23; have KL23 := Aside0.mk (show ((ji12) : Int).toNat ≤ y122.length from by omega); replace q23 := eq_true q23) | ((with_reducible refine gate_callee (f := 31) rfl ?_); refine goesL_ (some 40) rfl rfl Tryd.func31 (by kernel_rfl) rfl #[.slice Ao24 y125.length co24] rfl (by (try simp only [List.map_toArray, List.map_cons, List.map_nil]); first | done | rfl | (simp only [List.length_drop, List.length_take]; rfl)) ?_; (with_reducible refine (spec_AnWord.calls k1 _ _ y125 t129 _ ?side1 ?side2 A15.out).mono ?_); (case side1 => repeat (first | exact (by repeat (first | (with_reducible exact HR128.out) | (with_reducible refine Kd.C_alloc ?_ _) | (with_reducible refine Kd.C_drewN ?_ _) | (with_reducible refine Kd.C_drew ?_) | exact HR128.out)) | (with_reducible refine Kd.C_alloc ?_ _) | (with_reducible refine Kd.C_drewN ?_ _) | (with_reducible refine Kd.C_drew ?_))); (case side2 => exact HC128.out); rintro e w25 ⟨rfl, hb⟩; refine ⟨_, rfl, ?_⟩; have n0_ := Aside0.mk (Kd.R_below (by (with_reducible repeat (first | apply Kd.R_alloc | apply Kd.R_drewN | apply Kd.R_drew)); exact HO_3.out) hb); have n1_ := Aside0.mk (Kd.R_below (by (with_reducible repeat (first | apply Kd.R_alloc | apply Kd.R_drewN | apply Kd.R_drew)); exact HO121.out) hb); have n2_ := Aside0.mk (Kd.R_below (by (with_reducible repeat (first | apply Kd.R_alloc | apply Kd.R_drewN | apply Kd.R_drew)); exact HO124.out) hb); have n3_ := Aside0.mk (blk_below (g := gb118) (o := .cells #[.int .i64 t116, .string (⟨#[]⟩ : ByteArray)] 106 (0, 0)) (by (with_reducible repeat (first | refine blk_drewN ?_ _ | refine blk_drew ?_ | refine blk_alloc ?_ _)); exact BK118.out) hb); have n4_ := Aside0.mk (Kd.C_below (by repeat (first | (with_reducible exact HR128.out) | (with_reducible refine Kd.C_alloc ?_ _) | (with_reducible refine Kd.C_drewN ?_ _) | (with_reducible refine Kd.C_drew ?_) | exact HR128.out)) hb); have n5_ := Aside0.mk (below_step (by repeat (first | (with_reducible first | exact HB.out | apply below_alloc | apply pw_below_drewN | apply below_drew1 | refine below_set ?_ GE118.out) | exact HB.out)) hb); clear HO_3; clear HO121; clear HO124; clear BK118; clear HR128; clear HB; have HO_3 := n0_; have HO121 := n1_; have HO124 := n2_; have BK118 := n3_; have HR128 := n4_; have HB := n5_; clear n0_ n1_ n2_ n3_ n4_ n5_; (try clear hb); (try clear hb2); (try clear hk); (try clear hi); have hcz26_0 : w25.cell? ⟨gb118, 0, none⟩ = some (.int .i64 t116) := (blk_cell BK118.out 0).trans rfl; have hcz26_1 : w25.cell? ⟨gb118, 1, none⟩ = some (.string (⟨#[]⟩ : ByteArray)) := (blk_cell BK118.out 1).trans rfl; have hfz26_0 := blk_frozen BK118.out 0; have hfz26_1 := blk_frozen BK118.out 1) | ((with_reducible refine gate_builtin (b := .append) (xs := #[.tmp 42, .tmp 44]) rfl ?_); at_builtin; refine Kd.R_append k106 (w0 := w) w.heap.size rfl (.tmp 42) (.tmp 44) 86 106 (.agg #[(.int .i64 0), (.string ⟨#[]⟩)]) 24 rfl Tryd.underlying86 info106 rfl (by decide) (by omega) u3 x3_1 (⟨(-1), t129⟩ : S106) [.int .i64 (-1), .string t129] (fun k_ => k_ ≠ gb118) (fun _ => False) rfl (by first | (go_simp; done) | (go_simp; rfl)) ?aP (fun _ hk => hk.elim) ?aF ?aO ?aB ?aS ?aL ?_; (case aP => exact k106_mkM _ _ _ (⟨(-1), t129⟩ : S106)); (case aB => exact (by repeat (first | (with_reducible first | exact HB.out | apply below_alloc | apply pw_below_drewN | apply below_drew1 | refine below_set ?_ GE118.out) | exact HB.out))); (case aF => exact (fun k_ hk => Kd.freshB (g := gb118) (o := .cells #[.int .i64 (-1), .string t129] 106 (0, 0)) (by (with_reducible repeat (first | refine blk_drewN ?_ _ | refine blk_drew ?_ | refine blk_alloc ?_ _)); refine blk_put (cs := #[.int .i64 (-1), .string (⟨#[]⟩ : ByteArray)]) ?_ 1 _ rfl; (with_reducible repeat (first | refine blk_drewN ?_ _ | refine blk_drew ?_ | refine blk_alloc ?_ _)); refine blk_put (cs := #[.int .i64 t116, .string (⟨#[]⟩ : ByteArray)]) ?_ 0 _ rfl; (with_reducible repeat (first | refine blk_drewN ?_ _ | refine blk_drew ?_ | refine blk_alloc ?_ _)); exact BK118.out) k_ hk)); (case aO => exact (by (with_reducible repeat (first | apply Kd.R_alloc | apply Kd.R_drewN | apply Kd.R_drew)); exact Kd.R_mono (Kd.R_far (p := ⟨gb118, 1, none⟩) (Kd.R_far (p := ⟨gb118, 0, none⟩) (Kd.R_mono HO_3.out (fun k_ hk => (⟨hk, hk.2⟩ : _ ∧ k_ ≠ gb118))) (fun _ hk => hk.2) (.int .i64 (-1))) (fun _ hk => hk.2) (.string t129)) (fun _ hk => hk.1.2))); (case aS => exact (below_size (by repeat (first | (with_reducible first | exact HB.out | apply below_alloc | apply pw_below_drewN | apply below_drew1 | refine below_set ?_ GE118.out) | exact HB.out)))); (case aL => have := LMc16.out; omega); intro v131 w27 ho hb hg hat; rw [← Ny130.out] at ho; have n0_ := Aside0.mk (blk_grown (g := gb118) (o := .cells #[.int .i64 (-1), .string t129] 106 (0, 0)) (by (with_reducible repeat (first | refine blk_drewN ?_ _ | refine blk_drew ?_ | refine blk_alloc ?_ _)); refine blk_put (cs := #[.int .i64 (-1), .string (⟨#[]⟩ : ByteArray)]) ?_ 1 _ rfl; (with_reducible repeat (first | refine blk_drewN ?_ _ | refine blk_drew ?_ | refine blk_alloc ?_ _)); refine blk_put (cs := #[.int .i64 t116, .string (⟨#[]⟩ : ByteArray)]) ?_ 0 _ rfl; (with_reducible repeat (first | refine blk_drewN ?_ _ | refine blk_drew ?_ | refine blk_alloc ?_ _)); exact BK118.out) hg (Kd.R_away HO_3.out (fun _ hk => hk.2))); have n1_ := Aside0.mk (Kd.R_over' (by (with_reducible repeat (first | apply Kd.R_alloc | apply Kd.R_drewN | apply Kd.R_drew)); exact (Kd.R_mono (Kd.R_far (p := ⟨gb118, 1, none⟩) (Kd.R_far (p := ⟨gb118, 0, none⟩) (Kd.R_types HO121.out BK118.out (by decide)) (fun _ hk => hk.2) (.int .i64 (-1))) (fun _ hk => hk.2) (.string t129)) (fun _ h_ => h_.1))) (Kd.R_typed (by (with_reducible repeat (first | apply Kd.R_alloc | apply Kd.R_drewN | apply Kd.R_drew)); exact (Kd.R_mono (Kd.R_far (p := ⟨gb118, 1, none⟩) (Kd.R_far (p := ⟨gb118, 0, none⟩) (Kd.R_mono HO_3.out (fun k_ hk => (⟨hk, hk.2⟩ : _ ∧ k_ ≠ gb118))) (fun _ hk => hk.2) (.int .i64 (-1))) (fun _ hk => hk.2) (.string t129)) (fun _ h_ => h_.1)))) (by decide) hg); have n2_ := Aside0.mk (Kd.R_over' (by (with_reducible repeat (first | apply Kd.R_alloc | apply Kd.R_drewN | apply Kd.R_drew)); exact (Kd.R_mono (Kd.R_far (p := ⟨gb118, 1, none⟩) (Kd.R_far (p := ⟨gb118, 0, none⟩) (Kd.R_types HO124.out BK118.out (by decide)) (fun _ hk => hk.2) (.int .i64 (-1))) (fun _ hk => hk.2) (.string t129)) (fun _ h_ => h_.1))) (Kd.R_typed (by (with_reducible repeat (first | apply Kd.R_alloc | apply Kd.R_drewN | apply Kd.R_drew)); exact (Kd.R_mono (Kd.R_far (p := ⟨gb118, 1, none⟩) (Kd.R_far (p := ⟨gb118, 0, none⟩) (Kd.R_mono HO_3.out (fun k_ hk => (⟨hk, hk.2⟩ : _ ∧ k_ ≠ gb118))) (fun _ hk => hk.2) (.int .i64 (-1))) (fun _ hk => hk.2) (.string t129)) (fun _ h_ => h_.1)))) (by decide) hg); have n3_ := Aside0.mk (hb); have n4_ := Aside0.mk ((show Kd.C (Kd.int .u8) w27 Ao24 y125.length y125 from by rw [Ny125.out]; exact Kd.C_take (m := ((ji12) : Int).toNat) ((Kd.R_reads' (Kd.R_over' (by (with_reducible repeat (first | apply Kd.R_alloc | apply Kd.R_drewN | apply Kd.R_drew)); exact (Kd.R_mono (Kd.R_far (p := ⟨gb118, 1, none⟩) (Kd.R_far (p := ⟨gb118, 0, none⟩) (Kd.R_types HO124.out BK118.out (by decide)) (fun _ hk => hk.2) (.int .i64 (-1))) (fun _ hk => hk.2) (.string t129)) (fun _ h_ => h_.1))) (Kd.R_typed (by (with_reducible repeat (first | apply Kd.R_alloc | apply Kd.R_drewN | apply Kd.R_drew)); exact (Kd.R_mono (Kd.R_far (p := ⟨gb118, 1, none⟩) (Kd.R_far (p := ⟨gb118, 0, none⟩) (Kd.R_mono HO_3.out (fun k_ hk => (⟨hk, hk.2⟩ : _ ∧ k_ ≠ gb118))) (fun _ hk => hk.2) (.int .i64 (-1))) (fun _ hk => hk.2) (.string t129)) (fun _ h_ => h_.1)))) (by decide) hg)).2.2) KL23.out)); have n5_ := Aside0.mk (ho); clear BK118; clear HO121; clear HO124; clear HB; clear HR128; clear HO_3; have BK118 := n0_; have HO121 := n1_; have HO124 := n2_; have HB := n3_; have HR128 := n4_; have HO132 := n5_; clear n0_ n1_ n2_ n3_ n4_ n5_; clear ho hb hg hat))
                      go_roundg k1
                      case measure => have := HK1.out; omega
                      case rel => exact ⟨(y130), (wrap64 (x12_1 + 1)), (by first | rfl | (simp; done) | (simp [*]; done)), H', ⟨by have := HK1.out; omega⟩, ⟨by (with_reducible repeat (first | apply Kd.R_alloc | apply Kd.R_drewN | apply Kd.R_drew)); exact Kd.R_mono HO132.out (fun _ hk => trivial)⟩, ⟨by repeat (first | (with_reducible first | exact HB.out | apply below_alloc | apply pw_below_drewN | apply below_drew1 | refine below_set ?_ GE118.out) | exact HB.out)⟩⟩
                    · rw [if_neg c16] at H
                      exact absurd H (by simp)
                  · rw [if_neg c14] at H
                    exact absurd H (by simp)
                · rw [if_neg c13] at H
                  exact absurd H (by simp)
              · rw [if_neg c11] at H
                have c11b0 : decide ((t119.length : Int) ≤ t116) = false := decide_eq_false c11
                clear c11
                by_cases c28 : x3_1.length < 5864062014805
                · rw [if_pos c28] at H
                  have LMc28 := Aside0.mk c28
                  clear c28
                  obtain ⟨y133, hy133⟩ : ∃ y_ : List (S106), y_ = (x3_1 ++ [(⟨t116, (⟨#[]⟩ : ByteArray)⟩ : S106)]) := ⟨_, rfl⟩
                  replace H : (laws_lgPieces.l0 k1 y133 l0 (l0.length : Int) (wrap64 (x12_1 + 1))) = some r := by first | (rw [hy133]; with_reducible exact H) | (have H2_ := (Option.bind_some _ _).symm.trans H; rw [hy133]; with_reducible exact H2_) | (have H2_ := (Option.bind_some _ _).symm.trans H; with_reducible exact H2_) | with_reducible exact H | (rw [hy133]; exact H) | exact H
                  have Ny133 := Aside0.mk hy133
                  clear hy133
                  have H' := Aside0.mk H
                  clear H
                  have p115 : 0 ≤ (x12_1 : Int) := of_decide_eq_true (by first | (with_reducible assumption) | assumption)
                  have q115 : x12_1 < (l0.length : Int) := of_decide_eq_true (by first | (with_reducible assumption) | assumption)
                  obtain ⟨ad115, e115, hx115_0⟩ := Kd.at_int HR0.out x12_1 p115 q115
                  cases e115
                  replace hx115_0 := (HB.out.cell (World.block_lt_of_cell? w _ hx115_0)).trans hx115_0
                  replace p115 := eq_true p115
                  replace q115 := eq_true q115
                  go_wp2_with (first | (go_at_call 32; refine (idCut_at _ _ _ _ _ _ (by assumption) (by assumption)).mono ?_; rintro e w_ ⟨rfl, rfl⟩) | ((with_reducible refine gate_callee (f := 34) rfl ?_); refine goesL_ (some 20) rfl rfl Tryd.func34 (by kernel_rfl) rfl #[.int .i64 (rd l0 x12_1), .int .i64 40] rfl (by (try simp only [List.map_toArray, List.map_cons, List.map_nil]); first | done | rfl | (simp only [List.length_drop, List.length_take]; rfl)) ?_; (with_reducible refine (laws_idAt.calls (rd l0 x12_1) 40 t116 _ A8.out).mono ?_); rintro e w' ⟨rfl, ⟨nd, rfl⟩⟩; refine ⟨_, rfl, ?_⟩; (try (rw [drewN_self wr]; generalize hq_ : World.drewN wr _ = wr; have n0_ : Aside0 (Kd.R k106 106 wr w.heap.size (fun _ => True) u3 x3_1) := ⟨by rw [← hq_]; exact (by (with_reducible repeat (first | apply Kd.R_alloc | apply Kd.R_drewN | apply Kd.R_drew)); exact HO_3.out)⟩; have n1_ : Aside0 (Below w.heap.size w wr) := ⟨by rw [← hq_]; exact (by repeat (first | (with_reducible first | exact HB.out | apply below_alloc | apply pw_below_drewN | apply below_drew1) | exact HB.out))⟩; clear HO_3 HB hq_; have HO_3 := n0_; have HB := n1_; clear n0_ n1_))) | ((with_reducible refine gate_callee (f := 34) rfl ?_); refine goesL_ (some 22) rfl rfl Tryd.func34 (by kernel_rfl) rfl #[.int .i64 (rd l0 x12_1), .int .i64 1099511627776] rfl (by (try simp only [List.map_toArray, List.map_cons, List.map_nil]); first | done | rfl | (simp only [List.length_drop, List.length_take]; rfl)) ?_; (with_reducible refine (laws_idAt.calls (rd l0 x12_1) 1099511627776 t117 _ A9.out).mono ?_); rintro e w' ⟨rfl, ⟨nd, rfl⟩⟩; refine ⟨_, rfl, ?_⟩; (try (rw [drewN_self wr]; generalize hq_ : World.drewN wr _ = wr; have n0_ : Aside0 (Kd.R k106 106 wr w.heap.size (fun _ => True) u3 x3_1) := ⟨by rw [← hq_]; exact (by (with_reducible repeat (first | apply Kd.R_alloc | apply Kd.R_drewN | apply Kd.R_drew)); exact HO_3.out)⟩; have n1_ : Aside0 (Below w.heap.size w wr) := ⟨by rw [← hq_]; exact (by repeat (first | (with_reducible first | exact HB.out | apply below_alloc | apply pw_below_drewN | apply below_drew1) | exact HB.out))⟩; clear HO_3 HB hq_; have HO_3 := n0_; have HB := n1_; clear n0_ n1_))) | ((with_reducible refine gate_dst (N := 8) rfl ?_); refine box_event ?hg (N := 8) ?hd (cs := #[.int .i64 0, .string (⟨#[]⟩ : ByteArray)]) (t := 106) ?hr ?_; (case hd => rfl); (case hg => rfl); (case hr => first | (go_simp; done) | (go_simp; rfl)); intro gb118 hg w29 hbox hb; have n0_ := Aside0.mk (Kd.R_below (Kd.R_elderB (by (with_reducible repeat (first | apply Kd.R_alloc | apply Kd.R_drewN | apply Kd.R_drew)); exact HO_3.out) gb118 (Nat.le_of_eq hg.symm)) hb); have n1_ := Aside0.mk (below_step (by repeat (first | (with_reducible first | exact HB.out | apply below_alloc | apply pw_below_drewN | apply below_drew1) | exact HB.out)) hb); have n2_ := Aside0.mk (hbox); have n3_ := Aside0.mk ((by rw [hg]; exact (below_size (by repeat (first | (with_reducible first | exact HB.out | apply below_alloc | apply pw_below_drewN | apply below_drew1) | exact HB.out))) : w.heap.size ≤ gb118)); have n4_ := Aside0.mk ((by rw [hg]; exact (below_size (by repeat (first | (with_reducible first | exact HB.out | apply below_alloc | apply pw_below_drewN | apply below_drew1) | exact HB.out))) : w.heap.size ≤ gb118)); clear HO_3; clear HB; have HO_3 := n0_; have HB := n1_; have BK118 := n2_; have GW118 := n3_; have GE118 := n4_; clear n0_ n1_ n2_ n3_ n4_; clear hb hbox hg; have hcz30_0 : w29.cell? ⟨gb118, 0, none⟩ = some (.int .i64 0) := (blk_cell BK118.out 0).trans rfl; have hcz30_1 : w29.cell? ⟨gb118, 1, none⟩ = some (.string (⟨#[]⟩ : ByteArray)) := (blk_cell BK118.out 1).trans rfl; have hfz30_0 := blk_frozen BK118.out 0; have hfz30_1 := blk_frozen BK118.out 1) | ((with_reducible refine gate_callee (f := 33) rfl ?_); refine goesL_ (some 27) rfl rfl Tryd.func33 (by kernel_rfl) rfl #[] rfl (by (try simp only [List.map_toArray, List.map_cons, List.map_nil]); first | done | rfl | (simp only [List.length_drop, List.length_take]; rfl)) ?_; (with_reducible refine (spec_LgEscapes.calls  t119 _ A10.out).mono ?_); rintro e w31 ⟨v120, rfl, ho0, hb⟩; refine ⟨_, rfl, ?_⟩; have n0_ := Aside0.mk (Kd.R_below (by (with_reducible repeat (first | apply Kd.R_alloc | apply Kd.R_drewN | apply Kd.R_drew)); exact (Kd.R_mono (Kd.R_far (p := ⟨gb118, 1, none⟩) (Kd.R_far (p := ⟨gb118, 0, none⟩) (Kd.R_mono HO_3.out (fun k_ hk => (⟨hk, hk.2⟩ : _ ∧ k_ ≠ gb118))) (fun _ hk => hk.2) (.int .i64 t116)) (fun _ hk => hk.2) (.string (⟨#[]⟩ : ByteArray))) (fun _ h_ => h_.1))) hb); have n1_ := Aside0.mk (Kd.R_lower ho0 (below_size (by repeat (first | (with_reducible first | exact HB.out | apply below_alloc | apply pw_below_drewN | apply below_drew1 | refine below_set ?_ GE118.out) | exact HB.out)))); have n2_ := Aside0.mk (blk_below (g := gb118) (o := .cells #[.int .i64 t116, .string (⟨#[]⟩ : ByteArray)] 106 (0, 0)) (by (with_reducible repeat (first | refine blk_drewN ?_ _ | refine blk_drew ?_ | refine blk_alloc ?_ _)); refine blk_put (cs := #[.int .i64 t116, .string (⟨#[]⟩ : ByteArray)]) ?_ 1 _ rfl; (with_reducible repeat (first | refine blk_drewN ?_ _ | refine blk_drew ?_ | refine blk_alloc ?_ _)); refine blk_put (cs := #[.int .i64 0, .string (⟨#[]⟩ : ByteArray)]) ?_ 0 _ rfl; (with_reducible repeat (first | refine blk_drewN ?_ _ | refine blk_drew ?_ | refine blk_alloc ?_ _)); exact BK118.out) hb); have n3_ := Aside0.mk (below_step (by repeat (first | (with_reducible first | exact HB.out | apply below_alloc | apply pw_below_drewN | apply below_drew1 | refine below_set ?_ GE118.out) | exact HB.out)) hb); clear HO_3; clear BK118; clear HB; have HO_3 := n0_; have HO121 := n1_; have BK118 := n2_; have HB := n3_; clear n0_ n1_ n2_ n3_; (try clear hb); (try clear hb2); (try clear hk); (try clear hi); (try clear ho0); obtain ⟨Ao32, co32, eo32⟩ := Kd.R_slice HO121.out; subst eo32; have hcz33_0 : w31.cell? ⟨gb118, 0, none⟩ = some (.int .i64 t116) := (blk_cell BK118.out 0).trans rfl; have hcz33_1 : w31.cell? ⟨gb118, 1, none⟩ = some (.string (⟨#[]⟩ : ByteArray)) := (blk_cell BK118.out 1).trans rfl; have hfz33_0 := blk_frozen BK118.out 0; have hfz33_1 := blk_frozen BK118.out 1) | ((with_reducible refine gate_builtin (b := .append) (xs := #[.tmp 42, .tmp 44]) rfl ?_); at_builtin; refine Kd.R_append k106 (w0 := w) w.heap.size rfl (.tmp 42) (.tmp 44) 86 106 (.agg #[(.int .i64 0), (.string ⟨#[]⟩)]) 24 rfl Tryd.underlying86 info106 rfl (by decide) (by omega) u3 x3_1 (⟨t116, (⟨#[]⟩ : ByteArray)⟩ : S106) [.int .i64 t116, .string (⟨#[]⟩ : ByteArray)] (fun k_ => k_ ≠ gb118) (fun _ => False) rfl rfl ?aP (fun _ hk => hk.elim) ?aF ?aO ?aB ?aS ?aL ?_; (case aP => exact k106_mkM _ _ _ (⟨t116, (⟨#[]⟩ : ByteArray)⟩ : S106)); (case aB => exact (by repeat (first | (with_reducible first | exact HB.out | apply below_alloc | apply pw_below_drewN | apply below_drew1 | refine below_set ?_ GE118.out) | exact HB.out))); (case aF => exact (fun k_ hk => Kd.freshB (g := gb118) (o := .cells #[.int .i64 t116, .string (⟨#[]⟩ : ByteArray)] 106 (0, 0)) (by (with_reducible repeat (first | refine blk_drewN ?_ _ | refine blk_drew ?_ | refine blk_alloc ?_ _)); exact BK118.out) k_ hk)); (case aO => exact (by (with_reducible repeat (first | apply Kd.R_alloc | apply Kd.R_drewN | apply Kd.R_drew)); exact Kd.R_mono HO_3.out (fun _ hk => hk.2))); (case aS => exact (below_size (by repeat (first | (with_reducible first | exact HB.out | apply below_alloc | apply pw_below_drewN | apply below_drew1 | refine below_set ?_ GE118.out) | exact HB.out)))); (case aL => have := LMc28.out; omega); intro v134 w34 ho hb hg hat; rw [← Ny133.out] at ho; have n0_ := Aside0.mk (blk_grown (g := gb118) (o := .cells #[.int .i64 t116, .string (⟨#[]⟩ : ByteArray)] 106 (0, 0)) (by (with_reducible repeat (first | refine blk_drewN ?_ _ | refine blk_drew ?_ | refine blk_alloc ?_ _)); exact BK118.out) hg (Kd.R_away HO_3.out (fun _ hk => hk.2))); have n1_ := Aside0.mk (Kd.R_over' (by (with_reducible repeat (first | apply Kd.R_alloc | apply Kd.R_drewN | apply Kd.R_drew)); exact HO121.out) (Kd.R_typed (by (with_reducible repeat (first | apply Kd.R_alloc | apply Kd.R_drewN | apply Kd.R_drew)); exact HO_3.out)) (by decide) hg); have n2_ := Aside0.mk (hb); have n3_ := Aside0.mk (ho); clear BK118; clear HO121; clear HB; clear HO_3; have BK118 := n0_; have HO121 := n1_; have HB := n2_; have HO135 := n3_; clear n0_ n1_ n2_ n3_; clear ho hb hg hat))
                  go_roundg k1
                  case measure => have := HK1.out; omega
                  case rel => exact ⟨(y133), (wrap64 (x12_1 + 1)), (by first | rfl | (simp; done) | (simp [*]; done)), H', ⟨by have := HK1.out; omega⟩, ⟨by (with_reducible repeat (first | apply Kd.R_alloc | apply Kd.R_drewN | apply Kd.R_drew)); exact Kd.R_mono HO135.out (fun _ hk => trivial)⟩, ⟨by repeat (first | (with_reducible first | exact HB.out | apply below_alloc | apply pw_below_drewN | apply below_drew1 | refine below_set ?_ GE118.out) | exact HB.out)⟩⟩
                · rw [if_neg c28] at H
                  exact absurd H (by simp)
          · rw [if_neg c6] at H
            exact absurd H (by simp)
        · rw [if_neg c5] at H
          exact absurd H (by simp)
      · rw [if_neg c4] at H
        have c4b0 : decide (x12_1 < (l0.length : Int)) = false := decide_eq_false c4
        clear c4
        obtain rfl := Option.some.inj H
        go_wp2
        go_ret
        exact ⟨_, by first | rfl | (simp [errW_none, errW_some] <;> rfl) | (simp [*, errW_none, errW_some] <;> rfl), by (with_reducible repeat (first | apply Kd.R_alloc | apply Kd.R_drewN | apply Kd.R_drew)); exact HO_3.out, by repeat (first | (with_reducible first | exact HB.out | apply below_alloc | apply pw_below_drewN | apply below_drew1) | exact HB.out)⟩

/-! ### laws_lgEscaped: function 27 -/
def laws_lgEscaped.l0 : Nat → List ByteArray → List ByteArray → List (List Int) → Int → Int → Option (List ByteArray × List ByteArray)
  | 0, _, _, _, _, _ => none
  | k + 1, x4, x5, x12, x13, x14 => if x14 < x13 then (if 0 ≤ x14 then (if x14 < (x12.length : Int) then (if x14 ≥ 100 then (if (x4.length : Int) = 0 then (some ((([(⟨#[102]⟩ : ByteArray)] : List ByteArray)), (([(⟨#[102]⟩ : ByteArray)] : List ByteArray)))) else (some (x4, x5))) else ((laws_lgPieces.f k (rd_L1 x12 x14)).bind fun t155 => ((spec_LgName.f t155).bind fun bt158 => (if bt158.1.toList = ([] : List UInt8) then (laws_lgEscaped.l0 k x4 x5 x12 x13 (wrap64 (x14 + 1))) else (if x4.length < 8796093022208 then (if x5.length < 8796093022208 then (laws_lgEscaped.l0 k (x4 ++ [bt158.1]) (x5 ++ [bt158.2]) x12 x13 (wrap64 (x14 + 1))) else (none)) else (none)))))) else (none)) else (none)) else (if (x4.length : Int) = 0 then (some ((([(⟨#[102]⟩ : ByteArray)] : List ByteArray)), (([(⟨#[102]⟩ : ByteArray)] : List ByteArray)))) else (some (x4, x5)))
def laws_lgEscaped.f (k : Nat) (l0 : List (List Int)) : Option (List ByteArray × List ByteArray) := laws_lgEscaped.l0 k (([] : List ByteArray)) (([] : List ByteArray)) l0 (l0.length : Int) 0
theorem laws_lgEscaped.mono_l : ∀ k, (∀ y0 y1 y2 y3 y4, LeO (laws_lgEscaped.l0 k y0 y1 y2 y3 y4) (laws_lgEscaped.l0 (k + 1) y0 y1 y2 y3 y4))
  | 0 => fun _ _ _ _ _ r h => by simp [laws_lgEscaped.l0] at h
  | k + 1 => by
    have ih0 := laws_lgEscaped.mono_l k
    · intro y0 y1 y2 y3 y4
      unfold laws_lgEscaped.l0
      repeat' first
      | (with_reducible exact ih0 _ _ _ _ _)
      | (with_reducible exact laws_lgPieces.mono _ _)
      | (with_reducible exact LeO.refl _)
      | (with_reducible exact LeO.none _)
      | (with_reducible refine LeO.ite ?_ ?_)
      | (with_reducible refine LeO.bind ?_ (fun _ => ?_))
      | exact ih0 _ _ _ _ _
      | exact laws_lgPieces.mono _ _
      | exact LeO.none _
      | refine LeO.ite ?_ ?_
      | refine LeO.bind ?_ (fun _ => ?_)
theorem laws_lgEscaped.mono : ∀ a0 k, LeO (laws_lgEscaped.f k a0) (laws_lgEscaped.f (k + 1) a0) := by
  intro a0 k
  have ih0 := laws_lgEscaped.mono_l k
  unfold laws_lgEscaped.f
  repeat' first
      | (with_reducible exact ih0 _ _ _ _ _)
      | (with_reducible exact laws_lgPieces.mono _ _)
      | (with_reducible exact LeO.refl _)
      | (with_reducible exact LeO.none _)
      | (with_reducible refine LeO.ite ?_ ?_)
      | (with_reducible refine LeO.bind ?_ (fun _ => ?_))
      | exact ih0 _ _ _ _ _
      | exact laws_lgPieces.mono _ _
      | exact LeO.none _
      | refine LeO.ite ?_ ?_
      | refine LeO.bind ?_ (fun _ => ?_)
set_option maxHeartbeats 8000000 in
set_option maxRecDepth 100000 in
theorem laws_lgEscaped.calls (k : Nat) (A0 : Option Addr) (c0 : Nat) (l0 : List (List Int)) (r1 : List ByteArray) (r2 : List ByteArray) (w : World) (hr0 : Kd.C (Kd.slice 3 (Kd.int .i64)) w A0 l0.length l0) (hc0 : l0.length ≤ c0) (h : laws_lgEscaped.f k l0 = some (r1, r2)) :
    Calls Tryd.prog 27 #[.slice A0 l0.length c0] w fun e w' => ∃ v0_ v1_ : Value, e = .returned (.tuple #[v0_, v1_]) ∧ Kd.R Kd.string 9 w' w.heap.size (fun k_ => some k_ ≠ (v1_ : Value).ownBlock) v0_ r1 ∧ Kd.R Kd.string 9 w' w.heap.size (fun k_ => some k_ ≠ (v0_ : Value).ownBlock) v1_ r2 ∧ Below w.heap.size w w' := by
  have HR0 := Aside0.mk hr0
  have HC0 := Aside0.mk hc0
  clear hr0 hc0
  have HB := Aside0.mk (Below.refl w.heap.size w)
  have H : (laws_lgEscaped.l0 k (([] : List ByteArray)) (([] : List ByteArray)) l0 (l0.length : Int) 0) = some (r1, r2) := h
  clear h
  obtain ⟨y136, hy136⟩ : ∃ y_ : List ByteArray, y_ = (([] : List ByteArray)) := ⟨_, rfl⟩
  replace H : (laws_lgEscaped.l0 k y136 (([] : List ByteArray)) l0 (l0.length : Int) 0) = some (r1, r2) := by first | (rw [hy136]; with_reducible exact H) | (have H2_ := (Option.bind_some _ _).symm.trans H; rw [hy136]; with_reducible exact H2_) | (have H2_ := (Option.bind_some _ _).symm.trans H; with_reducible exact H2_) | with_reducible exact H | (rw [hy136]; exact H) | exact H
  have Ny136 := Aside0.mk hy136
  clear hy136
  obtain ⟨y139, hy139⟩ : ∃ y_ : List ByteArray, y_ = (([] : List ByteArray)) := ⟨_, rfl⟩
  replace H : (laws_lgEscaped.l0 k y136 y139 l0 (l0.length : Int) 0) = some (r1, r2) := by first | (rw [hy139]; with_reducible exact H) | (have H2_ := (Option.bind_some _ _).symm.trans H; rw [hy139]; with_reducible exact H2_) | (have H2_ := (Option.bind_some _ _).symm.trans H; with_reducible exact H2_) | with_reducible exact H | (rw [hy139]; exact H) | exact H
  have Ny139 := Aside0.mk hy139
  clear hy139
  have H' := Aside0.mk H
  clear H
  go_enter Tryd.func27, Tryd.ntmps27
  go_wp2_with (first | (go_at_call 32; refine (idCut_at _ _ _ _ _ _ (by assumption) (by assumption)).mono ?_; rintro e w_ ⟨rfl, rfl⟩) | ((with_reducible refine gate_dst (N := 10) rfl ?_); refine Kd.R_lit Kd.string _ 9 ?hg (N := 10) ?hd (xs := ([] : List ByteArray)) (inner := []) (ok := fun _ => True) (okp := fun _ => True) ?hr ?hp (fun _ hk => hk) trivial (Below.refl _ _) (Nat.le_refl _) (by simp) ?_; (case hd => rfl); (case hg => rfl); (case hr => first | (go_simp; done) | (go_simp; rfl)); (case hp => exact (Reps.none _ _)); intro v137 w2 ho3 hb hg_ hnew_; clear hg_ hnew_; (first | rw [← Ny136.out] at ho3 | (simp only [Int.reduceToNat] at ho3; rw [← Ny136.out] at ho3)); have n0_ := Aside0.mk (Kd.R_lower ho3 (below_size (by repeat (first | (with_reducible first | exact HB.out | apply below_alloc | apply pw_below_drewN | apply below_drew1) | exact HB.out)))); have n1_ := Aside0.mk (below_step (by repeat (first | (with_reducible first | exact HB.out | apply below_alloc | apply pw_below_drewN | apply below_drew1) | exact HB.out)) hb); clear HB; have HO138 := n0_; have HB := n1_; clear n0_ n1_; clear hb ho3) | ((with_reducible refine gate_dst (N := 11) rfl ?_); refine Kd.R_lit Kd.string _ 9 ?hg (N := 11) ?hd (xs := ([] : List ByteArray)) (inner := []) (ok := fun _ => True) (okp := fun _ => True) ?hr ?hp (fun _ hk => hk) trivial (Below.refl _ _) (Nat.le_refl _) (by simp) ?_; (case hd => rfl); (case hg => rfl); (case hr => first | (go_simp; done) | (go_simp; rfl)); (case hp => exact (Reps.none _ _)); intro v140 w4 ho5 hb hg_ hnew_; clear hg_ hnew_; (first | rw [← Ny139.out] at ho5 | (simp only [Int.reduceToNat] at ho5; rw [← Ny139.out] at ho5)); have n0_ := Aside0.mk (Kd.R_elder' (by (with_reducible repeat (first | apply Kd.R_alloc | apply Kd.R_drewN | apply Kd.R_drew)); exact HO138.out) (Kd.R_base ho5) hb); have n1_ := Aside0.mk (Kd.R_lower (Kd.R_new' ho5 (Kd.R_lt (by (with_reducible repeat (first | apply Kd.R_alloc | apply Kd.R_drewN | apply Kd.R_drew)); exact HO138.out))) (below_size (by repeat (first | (with_reducible first | exact HB.out | apply below_alloc | apply pw_below_drewN | apply below_drew1) | exact HB.out)))); have n2_ := Aside0.mk (below_step (by repeat (first | (with_reducible first | exact HB.out | apply below_alloc | apply pw_below_drewN | apply below_drew1) | exact HB.out)) hb); clear HO138; clear HB; have HO138 := n0_; have HO141 := n1_; have HB := n2_; clear n0_ n1_ n2_; clear hb ho5))
  go_loopg [4, 5, 14] k (fun kq v4 v5 v14 w' => ∃ (x4_1 : List ByteArray) (x5_1 : List ByteArray) (x14_1 : Int), v14 = .int .i64 x14_1 ∧ Aside0 (laws_lgEscaped.l0 kq x4_1 x5_1 l0 (l0.length : Int) x14_1 = some (r1, r2)) ∧ Aside0 (kq ≤ k) ∧ Aside0 (Kd.R Kd.string 9 w' w.heap.size (fun k_ => some k_ ≠ (v5 : Value).ownBlock) v4 x4_1) ∧ Aside0 (Kd.R Kd.string 9 w' w.heap.size (fun k_ => some k_ ≠ (v4 : Value).ownBlock) v5 x5_1) ∧ Aside0 (Below w.heap.size w w'))
  case atStart => exact ⟨(y136), (y139), (0), (by first | rfl | (simp; done) | (simp [*]; done)), H', ⟨Nat.le_refl _⟩, ⟨by (with_reducible repeat (first | apply Kd.R_alloc | apply Kd.R_drewN | apply Kd.R_drew)); exact Kd.R_mono HO138.out (fun _ hk => hk.2)⟩, ⟨by (with_reducible repeat (first | apply Kd.R_alloc | apply Kd.R_drewN | apply Kd.R_drew)); exact Kd.R_mono HO141.out (fun _ hk => hk.2)⟩, ⟨by repeat (first | (with_reducible first | exact HB.out | apply below_alloc | apply pw_below_drewN | apply below_drew1) | exact HB.out)⟩⟩
  case round =>
    clear H'
    try clear c2
    try clear p2
    obtain ⟨x4_1, x5_1, x14_1, rfl, HA, HK1, HO_4, HO_5, HB⟩ := hrel
    cases gk with
    | zero => exact absurd HA.out (by simp [laws_lgEscaped.l0])
    | succ k1 =>
      have H := HA.out
      clear HA
      simp only [laws_lgEscaped.l0] at H
      by_cases c6 : x14_1 < (l0.length : Int)
      · rw [if_pos c6] at H
        have c6b0 : decide (x14_1 < (l0.length : Int)) = true := decide_eq_true c6
        clear c6
        by_cases c7 : 0 ≤ x14_1
        · rw [if_pos c7] at H
          have c7b0 : decide (0 ≤ x14_1) = true := decide_eq_true c7
          clear c7
          by_cases c8 : x14_1 < (l0.length : Int)
          · rw [if_pos c8] at H
            have c8b0 : decide (x14_1 < (l0.length : Int)) = true := decide_eq_true c8
            clear c8
            by_cases c9 : x14_1 ≥ 100
            · rw [if_pos c9] at H
              have c9b0 : decide (100 ≤ x14_1) = true := decide_eq_true c9
              clear c9
              by_cases c10 : (x4_1.length : Int) = 0
              · rw [if_pos c10] at H
                have c10b0 : ((x4_1.length : Int) == 0) = true := beq_iff_eq.mpr c10
                have c10b1 : ((x4_1.length : Int) != 0) = false := bne_eq_false_iff_eq.mpr c10
                clear c10
                obtain ⟨y149, hy149⟩ : ∃ y_ : List ByteArray, y_ = (([(⟨#[102]⟩ : ByteArray)] : List ByteArray)) := ⟨_, rfl⟩
                replace H : (some (y149, (([(⟨#[102]⟩ : ByteArray)] : List ByteArray)))) = some (r1, r2) := by first | (rw [hy149]; with_reducible exact H) | (have H2_ := (Option.bind_some _ _).symm.trans H; rw [hy149]; with_reducible exact H2_) | (have H2_ := (Option.bind_some _ _).symm.trans H; with_reducible exact H2_) | with_reducible exact H | (rw [hy149]; exact H) | exact H
                have Ny149 := Aside0.mk hy149
                clear hy149
                obtain ⟨y152, hy152⟩ : ∃ y_ : List ByteArray, y_ = (([(⟨#[102]⟩ : ByteArray)] : List ByteArray)) := ⟨_, rfl⟩
                replace H : (some (y149, y152)) = some (r1, r2) := by first | (rw [hy152]; with_reducible exact H) | (have H2_ := (Option.bind_some _ _).symm.trans H; rw [hy152]; with_reducible exact H2_) | (have H2_ := (Option.bind_some _ _).symm.trans H; with_reducible exact H2_) | with_reducible exact H | (rw [hy152]; exact H) | exact H
                have Ny152 := Aside0.mk hy152
                clear hy152
                simp only [Option.some.injEq, Prod.mk.injEq] at H
                obtain ⟨rfl, rfl⟩ := H
                have p148 : 0 ≤ (x14_1 : Int) := of_decide_eq_true (by first | (with_reducible assumption) | assumption)
                have q148 : x14_1 < (l0.length : Int) := of_decide_eq_true (by first | (with_reducible assumption) | assumption)
                obtain ⟨ad148, A148_0, c148_0, e148, hx148_0, hl148_0, hi148_0⟩ := at_L1 HR0.out x14_1 p148 q148
                cases e148
                replace hx148_0 := (HB.out.cell (World.block_lt_of_cell? w _ hx148_0)).trans hx148_0
                have HR148_0 := Aside0.mk hi148_0
                have HC148_0 := Aside0.mk hl148_0
                clear hi148_0 hl148_0
                replace p148 := eq_true p148
                replace q148 := eq_true q148
                obtain ⟨Ao11, co11, eo11⟩ := Kd.R_slice HO_4.out
                subst eo11
                go_wp2_with (first | (go_at_call 32; refine (idCut_at _ _ _ _ _ _ (by assumption) (by assumption)).mono ?_; rintro e w_ ⟨rfl, rfl⟩) | ((with_reducible refine gate_dst (N := 41) rfl ?_); refine Kd.R_lit Kd.string _ 9 ?hg (N := 41) ?hd (xs := ([(⟨#[102]⟩ : ByteArray)] : List ByteArray)) (inner := [.string (⟨#[102]⟩ : ByteArray)]) (ok := fun _ => True) (okp := fun _ => True) ?hr ?hp (fun _ hk => hk) trivial (Below.refl _ _) (Nat.le_refl _) (by simp) ?_; (case hd => rfl); (case hg => rfl); (case hr => first | (go_simp; done) | (go_simp; rfl)); (case hp => exact (Reps.one (show Kd.M Kd.string _ _ _ (⟨#[102]⟩ : ByteArray) [.string (⟨#[102]⟩ : ByteArray)] from rfl) (Reps.none _ _))); intro v150 w12 ho13 hb hg_ hnew_; clear hg_ hnew_; (first | rw [← Ny149.out] at ho13 | (simp only [Int.reduceToNat] at ho13; rw [← Ny149.out] at ho13)); have n0_ := Aside0.mk (Kd.R_elder' (by (with_reducible repeat (first | apply Kd.R_alloc | apply Kd.R_drewN | apply Kd.R_drew)); exact HO_4.out) (Kd.R_base ho13) hb); have n1_ := Aside0.mk (Kd.R_elder' (by (with_reducible repeat (first | apply Kd.R_alloc | apply Kd.R_drewN | apply Kd.R_drew)); exact HO_5.out) (Kd.R_base ho13) hb); have n2_ := Aside0.mk (Kd.R_lower (Kd.R_new' (Kd.R_new' ho13 (Kd.R_lt (by (with_reducible repeat (first | apply Kd.R_alloc | apply Kd.R_drewN | apply Kd.R_drew)); exact HO_4.out))) (Kd.R_lt (by (with_reducible repeat (first | apply Kd.R_alloc | apply Kd.R_drewN | apply Kd.R_drew)); exact HO_5.out))) (below_size (by repeat (first | (with_reducible first | exact HB.out | apply below_alloc | apply pw_below_drewN | apply below_drew1) | exact HB.out)))); have n3_ := Aside0.mk (below_step (by repeat (first | (with_reducible first | exact HB.out | apply below_alloc | apply pw_below_drewN | apply below_drew1) | exact HB.out)) hb); clear HO_4; clear HO_5; clear HB; have HO_4 := n0_; have HO_5 := n1_; have HO151 := n2_; have HB := n3_; clear n0_ n1_ n2_ n3_; clear hb ho13) | ((with_reducible refine gate_dst (N := 42) rfl ?_); refine Kd.R_lit Kd.string _ 9 ?hg (N := 42) ?hd (xs := ([(⟨#[102]⟩ : ByteArray)] : List ByteArray)) (inner := [.string (⟨#[102]⟩ : ByteArray)]) (ok := fun _ => True) (okp := fun _ => True) ?hr ?hp (fun _ hk => hk) trivial (Below.refl _ _) (Nat.le_refl _) (by simp) ?_; (case hd => rfl); (case hg => rfl); (case hr => first | (go_simp; done) | (go_simp; rfl)); (case hp => exact (Reps.one (show Kd.M Kd.string _ _ _ (⟨#[102]⟩ : ByteArray) [.string (⟨#[102]⟩ : ByteArray)] from rfl) (Reps.none _ _))); intro v153 w14 ho15 hb hg_ hnew_; clear hg_ hnew_; (first | rw [← Ny152.out] at ho15 | (simp only [Int.reduceToNat] at ho15; rw [← Ny152.out] at ho15)); have n0_ := Aside0.mk (Kd.R_elder' (by (with_reducible repeat (first | apply Kd.R_alloc | apply Kd.R_drewN | apply Kd.R_drew)); exact HO_4.out) (Kd.R_base ho15) hb); have n1_ := Aside0.mk (Kd.R_elder' (by (with_reducible repeat (first | apply Kd.R_alloc | apply Kd.R_drewN | apply Kd.R_drew)); exact HO_5.out) (Kd.R_base ho15) hb); have n2_ := Aside0.mk (Kd.R_elder' (by (with_reducible repeat (first | apply Kd.R_alloc | apply Kd.R_drewN | apply Kd.R_drew)); exact HO151.out) (Kd.R_base ho15) hb); have n3_ := Aside0.mk (Kd.R_lower (Kd.R_new' (Kd.R_new' (Kd.R_new' ho15 (Kd.R_lt (by (with_reducible repeat (first | apply Kd.R_alloc | apply Kd.R_drewN | apply Kd.R_drew)); exact HO_4.out))) (Kd.R_lt (by (with_reducible repeat (first | apply Kd.R_alloc | apply Kd.R_drewN | apply Kd.R_drew)); exact HO_5.out))) (Kd.R_lt (by (with_reducible repeat (first | apply Kd.R_alloc | apply Kd.R_drewN | apply Kd.R_drew)); exact HO151.out))) (below_size (by repeat (first | (with_reducible first | exact HB.out | apply below_alloc | apply pw_below_drewN | apply below_drew1) | exact HB.out)))); have n4_ := Aside0.mk (below_step (by repeat (first | (with_reducible first | exact HB.out | apply below_alloc | apply pw_below_drewN | apply below_drew1) | exact HB.out)) hb); clear HO_4; clear HO_5; clear HO151; clear HB; have HO_4 := n0_; have HO_5 := n1_; have HO151 := n2_; have HO154 := n3_; have HB := n4_; clear n0_ n1_ n2_ n3_ n4_; clear hb ho15))
                go_ret2
                exact ⟨_, _, by first | rfl | (simp [errW_none, errW_some] <;> rfl) | (simp [*, errW_none, errW_some] <;> rfl), by (with_reducible repeat (first | apply Kd.R_alloc | apply Kd.R_drewN | apply Kd.R_drew)); exact Kd.R_mono HO151.out (fun _ hk => hk.2), by (with_reducible repeat (first | apply Kd.R_alloc | apply Kd.R_drewN | apply Kd.R_drew)); exact Kd.R_mono HO154.out (fun _ hk => hk.2), by repeat (first | (with_reducible first | exact HB.out | apply below_alloc | apply pw_below_drewN | apply below_drew1) | exact HB.out)⟩
              · rw [if_neg c10] at H
                have c10b0 : ((x4_1.length : Int) == 0) = false := beq_eq_false_iff_ne.mpr c10
                have c10b1 : ((x4_1.length : Int) != 0) = true := bne_iff_ne.mpr c10
                have c10b2 : ¬ (x4_1 = []) := fun h_ => c10 (by rw [h_]; rfl)
                simp only [Option.some.injEq, Prod.mk.injEq] at H
                obtain ⟨rfl, rfl⟩ := H
                have p148 : 0 ≤ (x14_1 : Int) := of_decide_eq_true (by first | (with_reducible assumption) | assumption)
                have q148 : x14_1 < (l0.length : Int) := of_decide_eq_true (by first | (with_reducible assumption) | assumption)
                obtain ⟨ad148, A148_0, c148_0, e148, hx148_0, hl148_0, hi148_0⟩ := at_L1 HR0.out x14_1 p148 q148
                cases e148
                replace hx148_0 := (HB.out.cell (World.block_lt_of_cell? w _ hx148_0)).trans hx148_0
                have HR148_0 := Aside0.mk hi148_0
                have HC148_0 := Aside0.mk hl148_0
                clear hi148_0 hl148_0
                replace p148 := eq_true p148
                replace q148 := eq_true q148
                obtain ⟨Ao16, co16, eo16⟩ := Kd.R_slice HO_4.out
                subst eo16
                go_wp2
                go_ret2
                exact ⟨_, _, by first | rfl | (simp [errW_none, errW_some] <;> rfl) | (simp [*, errW_none, errW_some] <;> rfl), by (with_reducible repeat (first | apply Kd.R_alloc | apply Kd.R_drewN | apply Kd.R_drew)); exact HO_4.out, by (with_reducible repeat (first | apply Kd.R_alloc | apply Kd.R_drewN | apply Kd.R_drew)); exact HO_5.out, by repeat (first | (with_reducible first | exact HB.out | apply below_alloc | apply pw_below_drewN | apply below_drew1) | exact HB.out)⟩
            · rw [if_neg c9] at H
              have c9b0 : decide (100 ≤ x14_1) = false := decide_eq_false c9
              clear c9
              replace H := Option.bind_eq_some_iff.mp H
              obtain ⟨t155, A170, H⟩ := H
              replace H : ((spec_LgName.f t155).bind fun bt158 => (if bt158.1.toList = ([] : List UInt8) then (laws_lgEscaped.l0 k1 x4_1 x5_1 l0 (l0.length : Int) (wrap64 (x14_1 + 1))) else (if x4_1.length < 8796093022208 then (if x5_1.length < 8796093022208 then (laws_lgEscaped.l0 k1 (x4_1 ++ [bt158.1]) (x5_1 ++ [bt158.2]) l0 (l0.length : Int) (wrap64 (x14_1 + 1))) else (none)) else (none)))) = some (r1, r2) := H
              have A17 := Aside0.mk A170
              clear A170
              replace H := Option.bind_eq_some_iff.mp H
              obtain ⟨⟨t158, t159⟩, A180, H⟩ := H
              replace H : (if t158.toList = ([] : List UInt8) then (laws_lgEscaped.l0 k1 x4_1 x5_1 l0 (l0.length : Int) (wrap64 (x14_1 + 1))) else (if x4_1.length < 8796093022208 then (if x5_1.length < 8796093022208 then (laws_lgEscaped.l0 k1 (x4_1 ++ [t158]) (x5_1 ++ [t159]) l0 (l0.length : Int) (wrap64 (x14_1 + 1))) else (none)) else (none))) = some (r1, r2) := H
              have A18 := Aside0.mk A180
              clear A180
              by_cases c19 : t158.toList = ([] : List UInt8)
              · rw [if_pos c19] at H
                have c19b0 : (t158.toList == ([] : List UInt8)) = true := beq_iff_eq.mpr c19
                have c19b1 : (t158.toList != ([] : List UInt8)) = false := bne_eq_false_iff_eq.mpr c19
                clear c19
                have H' := Aside0.mk H
                clear H
                have p148 : 0 ≤ (x14_1 : Int) := of_decide_eq_true (by first | (with_reducible assumption) | assumption)
                have q148 : x14_1 < (l0.length : Int) := of_decide_eq_true (by first | (with_reducible assumption) | assumption)
                obtain ⟨ad148, A148_0, c148_0, e148, hx148_0, hl148_0, hi148_0⟩ := at_L1 HR0.out x14_1 p148 q148
                cases e148
                replace hx148_0 := (HB.out.cell (World.block_lt_of_cell? w _ hx148_0)).trans hx148_0
                have HR148_0 := Aside0.mk hi148_0
                have HC148_0 := Aside0.mk hl148_0
                clear hi148_0 hl148_0
                replace p148 := eq_true p148
                replace q148 := eq_true q148
                go_wp2_with (first | (go_at_call 32; refine (idCut_at _ _ _ _ _ _ (by assumption) (by assumption)).mono ?_; rintro e w_ ⟨rfl, rfl⟩) | ((with_reducible refine gate_callee (f := 46) rfl ?_); refine goesL_ (some 23) rfl rfl Tryd.func46 (by kernel_rfl) rfl #[.slice A148_0 (rd_L1 l0 x14_1).length c148_0] rfl (by (try simp only [List.map_toArray, List.map_cons, List.map_nil]); first | done | rfl | (simp only [List.length_drop, List.length_take]; rfl)) ?_; (with_reducible refine (laws_lgPieces.calls k1 _ _ (rd_L1 l0 x14_1) t155 _ ?side1 ?side2 A17.out).mono ?_); (case side1 => repeat (first | exact (Kd.C_below HR148_0.out HB.out) | (with_reducible refine Kd.C_alloc ?_ _) | (with_reducible refine Kd.C_drewN ?_ _) | (with_reducible refine Kd.C_drew ?_))); (case side2 => exact HC148_0.out); rintro e w20 ⟨v156, rfl, ho0, hb⟩; refine ⟨_, rfl, ?_⟩; have n0_ := Aside0.mk (Kd.R_below (by (with_reducible repeat (first | apply Kd.R_alloc | apply Kd.R_drewN | apply Kd.R_drew)); exact HO_4.out) hb); have n1_ := Aside0.mk (Kd.R_below (by (with_reducible repeat (first | apply Kd.R_alloc | apply Kd.R_drewN | apply Kd.R_drew)); exact HO_5.out) hb); have n2_ := Aside0.mk (Kd.R_lower ho0 (below_size (by repeat (first | (with_reducible first | exact HB.out | apply below_alloc | apply pw_below_drewN | apply below_drew1) | exact HB.out)))); have n3_ := Aside0.mk (below_step (by repeat (first | (with_reducible first | exact HB.out | apply below_alloc | apply pw_below_drewN | apply below_drew1) | exact HB.out)) hb); clear HO_4; clear HO_5; clear HB; have HO_4 := n0_; have HO_5 := n1_; have HO157 := n2_; have HB := n3_; clear n0_ n1_ n2_ n3_; (try clear hb); (try clear hb2); (try clear hk); (try clear hi); (try clear ho0); obtain ⟨Ao21, co21, eo21⟩ := Kd.R_slice HO157.out; subst eo21) | ((with_reducible refine gate_callee (f := 45) rfl ?_); refine goesL_ (some 24) rfl rfl Tryd.func45 (by kernel_rfl) rfl #[.slice Ao21 t155.length co21] rfl (by (try simp only [List.map_toArray, List.map_cons, List.map_nil]); first | done | rfl | (simp only [List.length_drop, List.length_take]; rfl)) ?_; (with_reducible refine (spec_LgName.calls _ _ t155 t158 t159 _ ?side1 ?side2 A18.out).mono ?_); (case side1 => repeat (first | exact (Kd.R_reads' HO157.out).2.2 | (with_reducible refine Kd.C_alloc ?_ _) | (with_reducible refine Kd.C_drewN ?_ _) | (with_reducible refine Kd.C_drew ?_))); (case side2 => exact (Kd.R_reads' HO157.out).2.1); rintro e w22 ⟨rfl, hb⟩; refine ⟨_, rfl, ?_⟩; have n0_ := Aside0.mk (Kd.R_below (by (with_reducible repeat (first | apply Kd.R_alloc | apply Kd.R_drewN | apply Kd.R_drew)); exact HO_4.out) hb); have n1_ := Aside0.mk (Kd.R_below (by (with_reducible repeat (first | apply Kd.R_alloc | apply Kd.R_drewN | apply Kd.R_drew)); exact HO_5.out) hb); have n2_ := Aside0.mk (Kd.R_below (by (with_reducible repeat (first | apply Kd.R_alloc | apply Kd.R_drewN | apply Kd.R_drew)); exact HO157.out) hb); have n3_ := Aside0.mk (below_step (by repeat (first | (with_reducible first | exact HB.out | apply below_alloc | apply pw_below_drewN | apply below_drew1) | exact HB.out)) hb); clear HO_4; clear HO_5; clear HO157; clear HB; have HO_4 := n0_; have HO_5 := n1_; have HO157 := n2_; have HB := n3_; clear n0_ n1_ n2_ n3_; (try clear hb); (try clear hb2); (try clear hk); (try clear hi)))
                go_roundg k1
                case measure => have := HK1.out; omega
                case rel => exact ⟨(x4_1), (x5_1), (wrap64 (x14_1 + 1)), (by first | rfl | (simp; done) | (simp [*]; done)), H', ⟨by have := HK1.out; omega⟩, ⟨by (with_reducible repeat (first | apply Kd.R_alloc | apply Kd.R_drewN | apply Kd.R_drew)); exact HO_4.out⟩, ⟨by (with_reducible repeat (first | apply Kd.R_alloc | apply Kd.R_drewN | apply Kd.R_drew)); exact HO_5.out⟩, ⟨by repeat (first | (with_reducible first | exact HB.out | apply below_alloc | apply pw_below_drewN | apply below_drew1) | exact HB.out)⟩⟩
              · rw [if_neg c19] at H
                have c19b0 : (t158.toList == ([] : List UInt8)) = false := beq_eq_false_iff_ne.mpr c19
                have c19b1 : (t158.toList != ([] : List UInt8)) = true := bne_iff_ne.mpr c19
                by_cases c23 : x4_1.length < 8796093022208
                · rw [if_pos c23] at H
                  have LMc23 := Aside0.mk c23
                  clear c23
                  obtain ⟨y160, hy160⟩ : ∃ y_ : List ByteArray, y_ = (x4_1 ++ [t158]) := ⟨_, rfl⟩
                  replace H : (if x5_1.length < 8796093022208 then (laws_lgEscaped.l0 k1 y160 (x5_1 ++ [t159]) l0 (l0.length : Int) (wrap64 (x14_1 + 1))) else (none)) = some (r1, r2) := by first | (rw [hy160]; with_reducible exact H) | (have H2_ := (Option.bind_some _ _).symm.trans H; rw [hy160]; with_reducible exact H2_) | (have H2_ := (Option.bind_some _ _).symm.trans H; with_reducible exact H2_) | with_reducible exact H | (rw [hy160]; exact H) | exact H
                  have Ny160 := Aside0.mk hy160
                  clear hy160
                  by_cases c24 : x5_1.length < 8796093022208
                  · rw [if_pos c24] at H
                    have LMc24 := Aside0.mk c24
                    clear c24
                    obtain ⟨y163, hy163⟩ : ∃ y_ : List ByteArray, y_ = (x5_1 ++ [t159]) := ⟨_, rfl⟩
                    replace H : (laws_lgEscaped.l0 k1 y160 y163 l0 (l0.length : Int) (wrap64 (x14_1 + 1))) = some (r1, r2) := by first | (rw [hy163]; with_reducible exact H) | (have H2_ := (Option.bind_some _ _).symm.trans H; rw [hy163]; with_reducible exact H2_) | (have H2_ := (Option.bind_some _ _).symm.trans H; with_reducible exact H2_) | with_reducible exact H | (rw [hy163]; exact H) | exact H
                    have Ny163 := Aside0.mk hy163
                    clear hy163
                    have H' := Aside0.mk H
                    clear H
                    have p148 : 0 ≤ (x14_1 : Int) := of_decide_eq_true (by first | (with_reducible assumption) | assumption)
                    have q148 : x14_1 < (l0.length : Int) := of_decide_eq_true (by first | (with_reducible assumption) | assumption)
                    obtain ⟨ad148, A148_0, c148_0, e148, hx148_0, hl148_0, hi148_0⟩ := at_L1 HR0.out x14_1 p148 q148
                    cases e148
                    replace hx148_0 := (HB.out.cell (World.block_lt_of_cell? w _ hx148_0)).trans hx148_0
                    have HR148_0 := Aside0.mk hi148_0
                    have HC148_0 := Aside0.mk hl148_0
                    clear hi148_0 hl148_0
                    replace p148 := eq_true p148
                    replace q148 := eq_true q148
                    go_wp2_with (first | (go_at_call 32; refine (idCut_at _ _ _ _ _ _ (by assumption) (by assumption)).mono ?_; rintro e w_ ⟨rfl, rfl⟩) | ((with_reducible refine gate_callee (f := 46) rfl ?_); refine goesL_ (some 23) rfl rfl Tryd.func46 (by kernel_rfl) rfl #[.slice A148_0 (rd_L1 l0 x14_1).length c148_0] rfl (by (try simp only [List.map_toArray, List.map_cons, List.map_nil]); first | done | rfl | (simp only [List.length_drop, List.length_take]; rfl)) ?_; (with_reducible refine (laws_lgPieces.calls k1 _ _ (rd_L1 l0 x14_1) t155 _ ?side1 ?side2 A17.out).mono ?_); (case side1 => repeat (first | exact (Kd.C_below HR148_0.out HB.out) | (with_reducible refine Kd.C_alloc ?_ _) | (with_reducible refine Kd.C_drewN ?_ _) | (with_reducible refine Kd.C_drew ?_))); (case side2 => exact HC148_0.out); rintro e w25 ⟨v156, rfl, ho0, hb⟩; refine ⟨_, rfl, ?_⟩; have n0_ := Aside0.mk (Kd.R_below (by (with_reducible repeat (first | apply Kd.R_alloc | apply Kd.R_drewN | apply Kd.R_drew)); exact HO_4.out) hb); have n1_ := Aside0.mk (Kd.R_below (by (with_reducible repeat (first | apply Kd.R_alloc | apply Kd.R_drewN | apply Kd.R_drew)); exact HO_5.out) hb); have n2_ := Aside0.mk (Kd.R_lower ho0 (below_size (by repeat (first | (with_reducible first | exact HB.out | apply below_alloc | apply pw_below_drewN | apply below_drew1) | exact HB.out)))); have n3_ := Aside0.mk (below_step (by repeat (first | (with_reducible first | exact HB.out | apply below_alloc | apply pw_below_drewN | apply below_drew1) | exact HB.out)) hb); clear HO_4; clear HO_5; clear HB; have HO_4 := n0_; have HO_5 := n1_; have HO157 := n2_; have HB := n3_; clear n0_ n1_ n2_ n3_; (try clear hb); (try clear hb2); (try clear hk); (try clear hi); (try clear ho0); obtain ⟨Ao26, co26, eo26⟩ := Kd.R_slice HO157.out; subst eo26) | ((with_reducible refine gate_callee (f := 45) rfl ?_); refine goesL_ (some 24) rfl rfl Tryd.func45 (by kernel_rfl) rfl #[.slice Ao26 t155.length co26] rfl (by (try simp only [List.map_toArray, List.map_cons, List.map_nil]); first | done | rfl | (simp only [List.length_drop, List.length_take]; rfl)) ?_; (with_reducible refine (spec_LgName.calls _ _ t155 t158 t159 _ ?side1 ?side2 A18.out).mono ?_); (case side1 => repeat (first | exact (Kd.R_reads' HO157.out).2.2 | (with_reducible refine Kd.C_alloc ?_ _) | (with_reducible refine Kd.C_drewN ?_ _) | (with_reducible refine Kd.C_drew ?_))); (case side2 => exact (Kd.R_reads' HO157.out).2.1); rintro e w27 ⟨rfl, hb⟩; refine ⟨_, rfl, ?_⟩; have n0_ := Aside0.mk (Kd.R_below (by (with_reducible repeat (first | apply Kd.R_alloc | apply Kd.R_drewN | apply Kd.R_drew)); exact HO_4.out) hb); have n1_ := Aside0.mk (Kd.R_below (by (with_reducible repeat (first | apply Kd.R_alloc | apply Kd.R_drewN | apply Kd.R_drew)); exact HO_5.out) hb); have n2_ := Aside0.mk (Kd.R_below (by (with_reducible repeat (first | apply Kd.R_alloc | apply Kd.R_drewN | apply Kd.R_drew)); exact HO157.out) hb); have n3_ := Aside0.mk (below_step (by repeat (first | (with_reducible first | exact HB.out | apply below_alloc | apply pw_below_drewN | apply below_drew1) | exact HB.out)) hb); clear HO_4; clear HO_5; clear HO157; clear HB; have HO_4 := n0_; have HO_5 := n1_; have HO157 := n2_; have HB := n3_; clear n0_ n1_ n2_ n3_; (try clear hb); (try clear hb2); (try clear hk); (try clear hi)) | ((with_reducible refine gate_builtin (b := .append) (xs := #[.tmp 29, .tmp 31]) rfl ?_); at_builtin; refine Kd.R_append Kd.string (w0 := w) w.heap.size rfl (.tmp 29) (.tmp 31) 45 9 (.string ⟨#[]⟩) 16 rfl Tryd.underlying45 info9 rfl (by decide) (by omega) u4 x4_1 t158 [.string t158] (fun k_ => some k_ ≠ (u5 : Value).ownBlock) (fun _ => False) rfl rfl ?aP (fun _ hk => hk.elim) ?aF ?aO ?aB ?aS ?aL ?_; (case aP => exact rfl); (case aB => exact (by repeat (first | (with_reducible first | exact HB.out | apply below_alloc | apply pw_below_drewN | apply below_drew1) | exact HB.out))); (case aF => exact (fun k_ hk => Kd.fresh' (Kd.R_lt (by (with_reducible repeat (first | apply Kd.R_alloc | apply Kd.R_drewN | apply Kd.R_drew)); exact HO_5.out)) k_ hk)); (case aO => exact (by (with_reducible repeat (first | apply Kd.R_alloc | apply Kd.R_drewN | apply Kd.R_drew)); exact HO_4.out)); (case aS => exact (below_size (by repeat (first | (with_reducible first | exact HB.out | apply below_alloc | apply pw_below_drewN | apply below_drew1) | exact HB.out)))); (case aL => have := LMc23.out; omega); intro v161 w28 ho hb hg hat; rw [← Ny160.out] at ho; have n0_ := Aside0.mk (Kd.R_after (ok := (fun _ => True)) (by (with_reducible repeat (first | apply Kd.R_alloc | apply Kd.R_drewN | apply Kd.R_drew)); exact Kd.R_mono HO_5.out (fun _ hk => ⟨trivial, hk⟩)) hg hat); have n1_ := Aside0.mk (Kd.R_over' (by (with_reducible repeat (first | apply Kd.R_alloc | apply Kd.R_drewN | apply Kd.R_drew)); exact HO157.out) (Kd.R_typed (by (with_reducible repeat (first | apply Kd.R_alloc | apply Kd.R_drewN | apply Kd.R_drew)); exact HO_4.out)) (by decide) hg); have n2_ := Aside0.mk (hb); have n3_ := Aside0.mk (ho); clear HO_5; clear HO157; clear HB; clear HO_4; have HO_5 := n0_; have HO157 := n1_; have HB := n2_; have HO162 := n3_; clear n0_ n1_ n2_ n3_; clear ho hb hg hat) | ((with_reducible refine gate_builtin (b := .append) (xs := #[.tmp 33, .tmp 35]) rfl ?_); at_builtin; refine Kd.R_append Kd.string (w0 := w) w.heap.size rfl (.tmp 33) (.tmp 35) 45 9 (.string ⟨#[]⟩) 16 rfl Tryd.underlying45 info9 rfl (by decide) (by omega) u5 x5_1 t159 [.string t159] (fun k_ => some k_ ≠ (v161 : Value).ownBlock) (fun _ => False) rfl rfl ?aP (fun _ hk => hk.elim) ?aF ?aO ?aB ?aS ?aL ?_; (case aP => exact rfl); (case aB => exact (by repeat (first | (with_reducible first | exact HB.out | apply below_alloc | apply pw_below_drewN | apply below_drew1) | exact HB.out))); (case aF => exact (fun k_ hk => Kd.fresh' (Kd.R_lt (by (with_reducible repeat (first | apply Kd.R_alloc | apply Kd.R_drewN | apply Kd.R_drew)); exact HO162.out)) k_ hk)); (case aO => exact (by (with_reducible repeat (first | apply Kd.R_alloc | apply Kd.R_drewN | apply Kd.R_drew)); exact Kd.R_mono HO_5.out (fun _ hk => hk.2))); (case aS => exact (below_size (by repeat (first | (with_reducible first | exact HB.out | apply below_alloc | apply pw_below_drewN | apply below_drew1) | exact HB.out)))); (case aL => have := LMc24.out; omega); intro v164 w29 ho hb hg hat; rw [← Ny163.out] at ho; have n0_ := Aside0.mk (Kd.R_over' (by (with_reducible repeat (first | apply Kd.R_alloc | apply Kd.R_drewN | apply Kd.R_drew)); exact HO157.out) (Kd.R_typed (by (with_reducible repeat (first | apply Kd.R_alloc | apply Kd.R_drewN | apply Kd.R_drew)); exact HO_5.out)) (by decide) hg); have n1_ := Aside0.mk (Kd.R_after (ok := (fun _ => True)) (by (with_reducible repeat (first | apply Kd.R_alloc | apply Kd.R_drewN | apply Kd.R_drew)); exact Kd.R_mono HO162.out (fun _ hk => ⟨trivial, hk⟩)) hg hat); have n2_ := Aside0.mk (hb); have n3_ := Aside0.mk (ho); clear HO157; clear HO162; clear HB; clear HO_5; have HO157 := n0_; have HO162 := n1_; have HB := n2_; have HO165 := n3_; clear n0_ n1_ n2_ n3_; clear ho hb hg hat))
                    go_roundg k1
                    case measure => have := HK1.out; omega
                    case rel => exact ⟨(y160), (y163), (wrap64 (x14_1 + 1)), (by first | rfl | (simp; done) | (simp [*]; done)), H', ⟨by have := HK1.out; omega⟩, ⟨by (with_reducible repeat (first | apply Kd.R_alloc | apply Kd.R_drewN | apply Kd.R_drew)); exact Kd.R_mono HO162.out (fun _ hk => hk.2)⟩, ⟨by (with_reducible repeat (first | apply Kd.R_alloc | apply Kd.R_drewN | apply Kd.R_drew)); exact HO165.out⟩, ⟨by repeat (first | (with_reducible first | exact HB.out | apply below_alloc | apply pw_below_drewN | apply below_drew1) | exact HB.out)⟩⟩
                  · rw [if_neg c24] at H
                    exact absurd H (by simp)
                · rw [if_neg c23] at H
                  exact absurd H (by simp)
          · rw [if_neg c8] at H
            exact absurd H (by simp)
        · rw [if_neg c7] at H
          exact absurd H (by simp)
      · rw [if_neg c6] at H
        have c6b0 : decide (x14_1 < (l0.length : Int)) = false := decide_eq_false c6
        clear c6
        by_cases c30 : (x4_1.length : Int) = 0
        · rw [if_pos c30] at H
          have c30b0 : ((x4_1.length : Int) == 0) = true := beq_iff_eq.mpr c30
          have c30b1 : ((x4_1.length : Int) != 0) = false := bne_eq_false_iff_eq.mpr c30
          clear c30
          obtain ⟨y142, hy142⟩ : ∃ y_ : List ByteArray, y_ = (([(⟨#[102]⟩ : ByteArray)] : List ByteArray)) := ⟨_, rfl⟩
          replace H : (some (y142, (([(⟨#[102]⟩ : ByteArray)] : List ByteArray)))) = some (r1, r2) := by first | (rw [hy142]; with_reducible exact H) | (have H2_ := (Option.bind_some _ _).symm.trans H; rw [hy142]; with_reducible exact H2_) | (have H2_ := (Option.bind_some _ _).symm.trans H; with_reducible exact H2_) | with_reducible exact H | (rw [hy142]; exact H) | exact H
          have Ny142 := Aside0.mk hy142
          clear hy142
          obtain ⟨y145, hy145⟩ : ∃ y_ : List ByteArray, y_ = (([(⟨#[102]⟩ : ByteArray)] : List ByteArray)) := ⟨_, rfl⟩
          replace H : (some (y142, y145)) = some (r1, r2) := by first | (rw [hy145]; with_reducible exact H) | (have H2_ := (Option.bind_some _ _).symm.trans H; rw [hy145]; with_reducible exact H2_) | (have H2_ := (Option.bind_some _ _).symm.trans H; with_reducible exact H2_) | with_reducible exact H | (rw [hy145]; exact H) | exact H
          have Ny145 := Aside0.mk hy145
          clear hy145
          simp only [Option.some.injEq, Prod.mk.injEq] at H
          obtain ⟨rfl, rfl⟩ := H
          obtain ⟨Ao31, co31, eo31⟩ := Kd.R_slice HO_4.out
          subst eo31
          go_wp2_with (first | (go_at_call 32; refine (idCut_at _ _ _ _ _ _ (by assumption) (by assumption)).mono ?_; rintro e w_ ⟨rfl, rfl⟩) | ((with_reducible refine gate_dst (N := 41) rfl ?_); refine Kd.R_lit Kd.string _ 9 ?hg (N := 41) ?hd (xs := ([(⟨#[102]⟩ : ByteArray)] : List ByteArray)) (inner := [.string (⟨#[102]⟩ : ByteArray)]) (ok := fun _ => True) (okp := fun _ => True) ?hr ?hp (fun _ hk => hk) trivial (Below.refl _ _) (Nat.le_refl _) (by simp) ?_; (case hd => rfl); (case hg => rfl); (case hr => first | (go_simp; done) | (go_simp; rfl)); (case hp => exact (Reps.one (show Kd.M Kd.string _ _ _ (⟨#[102]⟩ : ByteArray) [.string (⟨#[102]⟩ : ByteArray)] from rfl) (Reps.none _ _))); intro v143 w32 ho33 hb hg_ hnew_; clear hg_ hnew_; (first | rw [← Ny142.out] at ho33 | (simp only [Int.reduceToNat] at ho33; rw [← Ny142.out] at ho33)); have n0_ := Aside0.mk (Kd.R_elder' (by (with_reducible repeat (first | apply Kd.R_alloc | apply Kd.R_drewN | apply Kd.R_drew)); exact HO_4.out) (Kd.R_base ho33) hb); have n1_ := Aside0.mk (Kd.R_elder' (by (with_reducible repeat (first | apply Kd.R_alloc | apply Kd.R_drewN | apply Kd.R_drew)); exact HO_5.out) (Kd.R_base ho33) hb); have n2_ := Aside0.mk (Kd.R_lower (Kd.R_new' (Kd.R_new' ho33 (Kd.R_lt (by (with_reducible repeat (first | apply Kd.R_alloc | apply Kd.R_drewN | apply Kd.R_drew)); exact HO_4.out))) (Kd.R_lt (by (with_reducible repeat (first | apply Kd.R_alloc | apply Kd.R_drewN | apply Kd.R_drew)); exact HO_5.out))) (below_size (by repeat (first | (with_reducible first | exact HB.out | apply below_alloc | apply pw_below_drewN | apply below_drew1) | exact HB.out)))); have n3_ := Aside0.mk (below_step (by repeat (first | (with_reducible first | exact HB.out | apply below_alloc | apply pw_below_drewN | apply below_drew1) | exact HB.out)) hb); clear HO_4; clear HO_5; clear HB; have HO_4 := n0_; have HO_5 := n1_; have HO144 := n2_; have HB := n3_; clear n0_ n1_ n2_ n3_; clear hb ho33) | ((with_reducible refine gate_dst (N := 42) rfl ?_); refine Kd.R_lit Kd.string _ 9 ?hg (N := 42) ?hd (xs := ([(⟨#[102]⟩ : ByteArray)] : List ByteArray)) (inner := [.string (⟨#[102]⟩ : ByteArray)]) (ok := fun _ => True) (okp := fun _ => True) ?hr ?hp (fun _ hk => hk) trivial (Below.refl _ _) (Nat.le_refl _) (by simp) ?_; (case hd => rfl); (case hg => rfl); (case hr => first | (go_simp; done) | (go_simp; rfl)); (case hp => exact (Reps.one (show Kd.M Kd.string _ _ _ (⟨#[102]⟩ : ByteArray) [.string (⟨#[102]⟩ : ByteArray)] from rfl) (Reps.none _ _))); intro v146 w34 ho35 hb hg_ hnew_; clear hg_ hnew_; (first | rw [← Ny145.out] at ho35 | (simp only [Int.reduceToNat] at ho35; rw [← Ny145.out] at ho35)); have n0_ := Aside0.mk (Kd.R_elder' (by (with_reducible repeat (first | apply Kd.R_alloc | apply Kd.R_drewN | apply Kd.R_drew)); exact HO_4.out) (Kd.R_base ho35) hb); have n1_ := Aside0.mk (Kd.R_elder' (by (with_reducible repeat (first | apply Kd.R_alloc | apply Kd.R_drewN | apply Kd.R_drew)); exact HO_5.out) (Kd.R_base ho35) hb); have n2_ := Aside0.mk (Kd.R_elder' (by (with_reducible repeat (first | apply Kd.R_alloc | apply Kd.R_drewN | apply Kd.R_drew)); exact HO144.out) (Kd.R_base ho35) hb); have n3_ := Aside0.mk (Kd.R_lower (Kd.R_new' (Kd.R_new' (Kd.R_new' ho35 (Kd.R_lt (by (with_reducible repeat (first | apply Kd.R_alloc | apply Kd.R_drewN | apply Kd.R_drew)); exact HO_4.out))) (Kd.R_lt (by (with_reducible repeat (first | apply Kd.R_alloc | apply Kd.R_drewN | apply Kd.R_drew)); exact HO_5.out))) (Kd.R_lt (by (with_reducible repeat (first | apply Kd.R_alloc | apply Kd.R_drewN | apply Kd.R_drew)); exact HO144.out))) (below_size (by repeat (first | (with_reducible first | exact HB.out | apply below_alloc | apply pw_below_drewN | apply below_drew1) | exact HB.out)))); have n4_ := Aside0.mk (below_step (by repeat (first | (with_reducible first | exact HB.out | apply below_alloc | apply pw_below_drewN | apply below_drew1) | exact HB.out)) hb); clear HO_4; clear HO_5; clear HO144; clear HB; have HO_4 := n0_; have HO_5 := n1_; have HO144 := n2_; have HO147 := n3_; have HB := n4_; clear n0_ n1_ n2_ n3_ n4_; clear hb ho35))
          go_ret2
          exact ⟨_, _, by first | rfl | (simp [errW_none, errW_some] <;> rfl) | (simp [*, errW_none, errW_some] <;> rfl), by (with_reducible repeat (first | apply Kd.R_alloc | apply Kd.R_drewN | apply Kd.R_drew)); exact Kd.R_mono HO144.out (fun _ hk => hk.2), by (with_reducible repeat (first | apply Kd.R_alloc | apply Kd.R_drewN | apply Kd.R_drew)); exact Kd.R_mono HO147.out (fun _ hk => hk.2), by repeat (first | (with_reducible first | exact HB.out | apply below_alloc | apply pw_below_drewN | apply below_drew1) | exact HB.out)⟩
        · rw [if_neg c30] at H
          have c30b0 : ((x4_1.length : Int) == 0) = false := beq_eq_false_iff_ne.mpr c30
          have c30b1 : ((x4_1.length : Int) != 0) = true := bne_iff_ne.mpr c30
          have c30b2 : ¬ (x4_1 = []) := fun h_ => c30 (by rw [h_]; rfl)
          simp only [Option.some.injEq, Prod.mk.injEq] at H
          obtain ⟨rfl, rfl⟩ := H
          obtain ⟨Ao36, co36, eo36⟩ := Kd.R_slice HO_4.out
          subst eo36
          go_wp2
          go_ret2
          exact ⟨_, _, by first | rfl | (simp [errW_none, errW_some] <;> rfl) | (simp [*, errW_none, errW_some] <;> rfl), by (with_reducible repeat (first | apply Kd.R_alloc | apply Kd.R_drewN | apply Kd.R_drew)); exact HO_4.out, by (with_reducible repeat (first | apply Kd.R_alloc | apply Kd.R_drewN | apply Kd.R_drew)); exact HO_5.out, by repeat (first | (with_reducible first | exact HB.out | apply below_alloc | apply pw_below_drewN | apply below_drew1) | exact HB.out)⟩

end Go.Proofs.YtpmlnhddkbgefaaDoor.PFnLegacyOptions
