/- Written by a program of this session (wip/tools/myprint.py) with the kit's print: contracts of the functions that one statement reaches; functions that are proved by hand are taken as printed. Conditions: none. -/
import Derived.Test.YtkhbmkccbhkolaaGreatDoorPFnUnicodeNamesx0
import Derived.Test.YtkhbmkccbhkolaaGreatDoorPFnUnicodeNamesx1
import Derived.Test.YtkhbmkccbhkolaaGreatDoorPFnUnicodeNamesx2
namespace Go.Proofs.YtkhbmkccbhkolaaGreatDoor.PFnUnicodeNames
open Go.RowKit Go.Proofs.YtkhbmkccbhkolaaGreatDoorW.PrintWords Go.Proofs.YtkhbmkccbhkolaaGreatDoorW.PrintLast Go.Proofs.YtkhbmkccbhkolaaGreatDoorW.PrintMore
attribute [local go_sem] max2_int min2_int max_two min_two max_three min_three max_four min_four   -- for this text's walks alone
set_option linter.unusedVariables false
set_option linter.unusedSimpArgs false

/-! ### spec_IdPunycode: function 26 -/
mutual
def spec_IdPunycode.l0 : Nat → List Int → ByteArray → List Int → Int → Int → Option (ByteArray)
  | 0, _, _, _, _, _ => none
  | k + 1, x0, x3, x14, x15, x16 => if x16 < x15 then (if 0 ≤ x16 then (if x16 < (x14.length : Int) then (if (rd x14 x16) < 128 then (if x3.size + (Utf8.encode (wrap32 (rd x14 x16))).size ≤ 9223372036854775807 then (spec_IdPunycode.l0 k x0 (x3 ++ (Utf8.encode (wrap32 (rd x14 x16)))) x14 x15 (wrap64 (x16 + 1))) else (none)) else (spec_IdPunycode.l0 k x0 x3 x14 x15 (wrap64 (x16 + 1)))) else (none)) else (none)) else (if (x3.size : Int) > 0 then (if x3.size + 1 ≤ 9223372036854775807 then (spec_IdPunycode.j1 k x0 (x3 ++ (⟨#[95]⟩ : ByteArray)) (x3.size : Int) true) else (none)) else (spec_IdPunycode.j1 k x0 x3 (x3.size : Int) true))
def spec_IdPunycode.j1 : Nat → List Int → ByteArray → Int → Bool → Option (ByteArray)
  | 0, _, _, _, _ => none
  | k + 1, x0, x3, x6, x7 => (spec_idNext.f k x0 128).bind fun t132 => (spec_IdPunycode.l1 k x0 x3 x6 x7 128 0 72 t132)
def spec_IdPunycode.l1 : Nat → List Int → ByteArray → Int → Bool → Int → Int → Int → Int → Option (ByteArray)
  | 0, _, _, _, _, _, _, _, _ => none
  | k + 1, x0, x3, x6, x7, x8, x9, x10, x11 => if x11 ≥ 0 then (spec_IdPunycode.l2 k x0 x3 x6 x7 x11 (wrap64 (x9 + (wrap64 ((wrap64 (x11 - x8)) * (wrap64 (x6 + 1)))))) x10 x0 (x0.length : Int) 0) else (some x3)
def spec_IdPunycode.l2 : Nat → List Int → ByteArray → Int → Bool → Int → Int → Int → List Int → Int → Int → Option (ByteArray)
  | 0, _, _, _, _, _, _, _, _, _, _ => none
  | k + 1, x0, x3, x6, x7, x8, x9, x10, x51, x52, x53 => if x53 < x52 then (if 0 ≤ x53 then (if x53 < (x51.length : Int) then (if (rd x51 x53) < x8 then (spec_IdPunycode.j4 k x0 x3 x6 x7 x8 (wrap64 (x9 + 1)) x10 (rd x51 x53) x51 x52 x53) else (spec_IdPunycode.j4 k x0 x3 x6 x7 x8 x9 x10 (rd x51 x53) x51 x52 x53)) else (none)) else (none)) else ((spec_idNext.f k x0 (wrap64 (x8 + 1))).bind fun t133 => (spec_IdPunycode.l1 k x0 x3 x6 x7 (wrap64 (x8 + 1)) (wrap64 (x9 + 1)) x10 t133))
def spec_IdPunycode.j4 : Nat → List Int → ByteArray → Int → Bool → Int → Int → Int → Int → List Int → Int → Int → Option (ByteArray)
  | 0, _, _, _, _, _, _, _, _, _, _, _ => none
  | k + 1, x0, x3, x6, x7, x8, x9, x10, x13, x51, x52, x53 => if x13 = x8 then ((spec_idDelta.f k x9 x10).bind fun t135 => (if x3.size + t135.size ≤ 9223372036854775807 then ((spec_idAdapted.f k x9 (wrap64 (x6 + 1)) x7).bind fun t136 => (spec_IdPunycode.l2 k x0 (x3 ++ t135) (wrap64 (x6 + 1)) false x8 0 t136 x51 x52 (wrap64 (x53 + 1)))) else (none))) else (spec_IdPunycode.l2 k x0 x3 x6 x7 x8 x9 x10 x51 x52 (wrap64 (x53 + 1)))
end
def spec_IdPunycode.f (k : Nat) (l0 : List Int) : Option (ByteArray) := spec_IdPunycode.l0 k l0 (⟨#[]⟩ : ByteArray) l0 (l0.length : Int) 0
theorem spec_IdPunycode.mono_l : ∀ k, (∀ y0 y1 y2 y3 y4, LeO (spec_IdPunycode.l0 k y0 y1 y2 y3 y4) (spec_IdPunycode.l0 (k + 1) y0 y1 y2 y3 y4)) ∧ (∀ y0 y1 y2 y3, LeO (spec_IdPunycode.j1 k y0 y1 y2 y3) (spec_IdPunycode.j1 (k + 1) y0 y1 y2 y3)) ∧ (∀ y0 y1 y2 y3 y4 y5 y6 y7, LeO (spec_IdPunycode.l1 k y0 y1 y2 y3 y4 y5 y6 y7) (spec_IdPunycode.l1 (k + 1) y0 y1 y2 y3 y4 y5 y6 y7)) ∧ (∀ y0 y1 y2 y3 y4 y5 y6 y7 y8 y9, LeO (spec_IdPunycode.l2 k y0 y1 y2 y3 y4 y5 y6 y7 y8 y9) (spec_IdPunycode.l2 (k + 1) y0 y1 y2 y3 y4 y5 y6 y7 y8 y9)) ∧ (∀ y0 y1 y2 y3 y4 y5 y6 y7 y8 y9 y10, LeO (spec_IdPunycode.j4 k y0 y1 y2 y3 y4 y5 y6 y7 y8 y9 y10) (spec_IdPunycode.j4 (k + 1) y0 y1 y2 y3 y4 y5 y6 y7 y8 y9 y10))
  | 0 => ⟨fun _ _ _ _ _ r h => by simp [spec_IdPunycode.l0] at h, fun _ _ _ _ r h => by simp [spec_IdPunycode.j1] at h, fun _ _ _ _ _ _ _ _ r h => by simp [spec_IdPunycode.l1] at h, fun _ _ _ _ _ _ _ _ _ _ r h => by simp [spec_IdPunycode.l2] at h, fun _ _ _ _ _ _ _ _ _ _ _ r h => by simp [spec_IdPunycode.j4] at h⟩
  | k + 1 => by
    obtain ⟨ih0, ih1, ih2, ih3, ih4⟩ := spec_IdPunycode.mono_l k
    refine ⟨?_, ?_, ?_, ?_, ?_⟩
    · intro y0 y1 y2 y3 y4
      unfold spec_IdPunycode.l0
      repeat' first
      | (with_reducible exact ih0 _ _ _ _ _)
      | (with_reducible exact ih1 _ _ _ _)
      | (with_reducible exact ih2 _ _ _ _ _ _ _ _)
      | (with_reducible exact ih3 _ _ _ _ _ _ _ _ _ _)
      | (with_reducible exact ih4 _ _ _ _ _ _ _ _ _ _ _)
      | (with_reducible exact spec_idAdapted.mono _ _ _ _)
      | (with_reducible exact spec_idDelta.mono _ _ _)
      | (with_reducible exact spec_idNext.mono _ _ _)
      | (with_reducible exact LeO.refl _)
      | (with_reducible exact LeO.none _)
      | (with_reducible refine LeO.ite ?_ ?_)
      | (with_reducible refine LeO.bind ?_ (fun _ => ?_))
      | exact ih0 _ _ _ _ _
      | exact ih1 _ _ _ _
      | exact ih2 _ _ _ _ _ _ _ _
      | exact ih3 _ _ _ _ _ _ _ _ _ _
      | exact ih4 _ _ _ _ _ _ _ _ _ _ _
      | exact spec_idAdapted.mono _ _ _ _
      | exact spec_idDelta.mono _ _ _
      | exact spec_idNext.mono _ _ _
      | exact LeO.none _
      | refine LeO.ite ?_ ?_
      | refine LeO.bind ?_ (fun _ => ?_)
    · intro y0 y1 y2 y3
      unfold spec_IdPunycode.j1
      repeat' first
      | (with_reducible exact ih0 _ _ _ _ _)
      | (with_reducible exact ih1 _ _ _ _)
      | (with_reducible exact ih2 _ _ _ _ _ _ _ _)
      | (with_reducible exact ih3 _ _ _ _ _ _ _ _ _ _)
      | (with_reducible exact ih4 _ _ _ _ _ _ _ _ _ _ _)
      | (with_reducible exact spec_idAdapted.mono _ _ _ _)
      | (with_reducible exact spec_idDelta.mono _ _ _)
      | (with_reducible exact spec_idNext.mono _ _ _)
      | (with_reducible exact LeO.refl _)
      | (with_reducible exact LeO.none _)
      | (with_reducible refine LeO.ite ?_ ?_)
      | (with_reducible refine LeO.bind ?_ (fun _ => ?_))
      | exact ih0 _ _ _ _ _
      | exact ih1 _ _ _ _
      | exact ih2 _ _ _ _ _ _ _ _
      | exact ih3 _ _ _ _ _ _ _ _ _ _
      | exact ih4 _ _ _ _ _ _ _ _ _ _ _
      | exact spec_idAdapted.mono _ _ _ _
      | exact spec_idDelta.mono _ _ _
      | exact spec_idNext.mono _ _ _
      | exact LeO.none _
      | refine LeO.ite ?_ ?_
      | refine LeO.bind ?_ (fun _ => ?_)
    · intro y0 y1 y2 y3 y4 y5 y6 y7
      unfold spec_IdPunycode.l1
      repeat' first
      | (with_reducible exact ih0 _ _ _ _ _)
      | (with_reducible exact ih1 _ _ _ _)
      | (with_reducible exact ih2 _ _ _ _ _ _ _ _)
      | (with_reducible exact ih3 _ _ _ _ _ _ _ _ _ _)
      | (with_reducible exact ih4 _ _ _ _ _ _ _ _ _ _ _)
      | (with_reducible exact spec_idAdapted.mono _ _ _ _)
      | (with_reducible exact spec_idDelta.mono _ _ _)
      | (with_reducible exact spec_idNext.mono _ _ _)
      | (with_reducible exact LeO.refl _)
      | (with_reducible exact LeO.none _)
      | (with_reducible refine LeO.ite ?_ ?_)
      | (with_reducible refine LeO.bind ?_ (fun _ => ?_))
      | exact ih0 _ _ _ _ _
      | exact ih1 _ _ _ _
      | exact ih2 _ _ _ _ _ _ _ _
      | exact ih3 _ _ _ _ _ _ _ _ _ _
      | exact ih4 _ _ _ _ _ _ _ _ _ _ _
      | exact spec_idAdapted.mono _ _ _ _
      | exact spec_idDelta.mono _ _ _
      | exact spec_idNext.mono _ _ _
      | exact LeO.none _
      | refine LeO.ite ?_ ?_
      | refine LeO.bind ?_ (fun _ => ?_)
    · intro y0 y1 y2 y3 y4 y5 y6 y7 y8 y9
      unfold spec_IdPunycode.l2
      repeat' first
      | (with_reducible exact ih0 _ _ _ _ _)
      | (with_reducible exact ih1 _ _ _ _)
      | (with_reducible exact ih2 _ _ _ _ _ _ _ _)
      | (with_reducible exact ih3 _ _ _ _ _ _ _ _ _ _)
      | (with_reducible exact ih4 _ _ _ _ _ _ _ _ _ _ _)
      | (with_reducible exact spec_idAdapted.mono _ _ _ _)
      | (with_reducible exact spec_idDelta.mono _ _ _)
      | (with_reducible exact spec_idNext.mono _ _ _)
      | (with_reducible exact LeO.refl _)
      | (with_reducible exact LeO.none _)
      | (with_reducible refine LeO.ite ?_ ?_)
      | (with_reducible refine LeO.bind ?_ (fun _ => ?_))
      | exact ih0 _ _ _ _ _
      | exact ih1 _ _ _ _
      | exact ih2 _ _ _ _ _ _ _ _
      | exact ih3 _ _ _ _ _ _ _ _ _ _
      | exact ih4 _ _ _ _ _ _ _ _ _ _ _
      | exact spec_idAdapted.mono _ _ _ _
      | exact spec_idDelta.mono _ _ _
      | exact spec_idNext.mono _ _ _
      | exact LeO.none _
      | refine LeO.ite ?_ ?_
      | refine LeO.bind ?_ (fun _ => ?_)
    · intro y0 y1 y2 y3 y4 y5 y6 y7 y8 y9 y10
      unfold spec_IdPunycode.j4
      repeat' first
      | (with_reducible exact ih0 _ _ _ _ _)
      | (with_reducible exact ih1 _ _ _ _)
      | (with_reducible exact ih2 _ _ _ _ _ _ _ _)
      | (with_reducible exact ih3 _ _ _ _ _ _ _ _ _ _)
      | (with_reducible exact ih4 _ _ _ _ _ _ _ _ _ _ _)
      | (with_reducible exact spec_idAdapted.mono _ _ _ _)
      | (with_reducible exact spec_idDelta.mono _ _ _)
      | (with_reducible exact spec_idNext.mono _ _ _)
      | (with_reducible exact LeO.refl _)
      | (with_reducible exact LeO.none _)
      | (with_reducible refine LeO.ite ?_ ?_)
      | (with_reducible refine LeO.bind ?_ (fun _ => ?_))
      | exact ih0 _ _ _ _ _
      | exact ih1 _ _ _ _
      | exact ih2 _ _ _ _ _ _ _ _
      | exact ih3 _ _ _ _ _ _ _ _ _ _
      | exact ih4 _ _ _ _ _ _ _ _ _ _ _
      | exact spec_idAdapted.mono _ _ _ _
      | exact spec_idDelta.mono _ _ _
      | exact spec_idNext.mono _ _ _
      | exact LeO.none _
      | refine LeO.ite ?_ ?_
      | refine LeO.bind ?_ (fun _ => ?_)
theorem spec_IdPunycode.mono : ∀ a0 k, LeO (spec_IdPunycode.f k a0) (spec_IdPunycode.f (k + 1) a0) := by
  intro a0 k
  obtain ⟨ih0, ih1, ih2, ih3, ih4⟩ := spec_IdPunycode.mono_l k
  unfold spec_IdPunycode.f
  repeat' first
      | (with_reducible exact ih0 _ _ _ _ _)
      | (with_reducible exact ih1 _ _ _ _)
      | (with_reducible exact ih2 _ _ _ _ _ _ _ _)
      | (with_reducible exact ih3 _ _ _ _ _ _ _ _ _ _)
      | (with_reducible exact ih4 _ _ _ _ _ _ _ _ _ _ _)
      | (with_reducible exact spec_idAdapted.mono _ _ _ _)
      | (with_reducible exact spec_idDelta.mono _ _ _)
      | (with_reducible exact spec_idNext.mono _ _ _)
      | (with_reducible exact LeO.refl _)
      | (with_reducible exact LeO.none _)
      | (with_reducible refine LeO.ite ?_ ?_)
      | (with_reducible refine LeO.bind ?_ (fun _ => ?_))
      | exact ih0 _ _ _ _ _
      | exact ih1 _ _ _ _
      | exact ih2 _ _ _ _ _ _ _ _
      | exact ih3 _ _ _ _ _ _ _ _ _ _
      | exact ih4 _ _ _ _ _ _ _ _ _ _ _
      | exact spec_idAdapted.mono _ _ _ _
      | exact spec_idDelta.mono _ _ _
      | exact spec_idNext.mono _ _ _
      | exact LeO.none _
      | refine LeO.ite ?_ ?_
      | refine LeO.bind ?_ (fun _ => ?_)
set_option maxHeartbeats 8000000 in
set_option maxRecDepth 100000 in
theorem spec_IdPunycode.calls (k : Nat) (A0 : Option Addr) (c0 : Nat) (l0 : List Int) (r : ByteArray) (w : World) (hr0 : Kd.C (Kd.int .i64) w A0 l0.length l0) (hc0 : l0.length ≤ c0) (h : spec_IdPunycode.f k l0 = some r) :
    Calls Tryz.prog 26 #[.slice A0 l0.length c0] w fun e w' => e = .returned (.string r) ∧ Below w.heap.size w w' := by
  have HR0 := Aside0.mk hr0
  have HC0 := Aside0.mk hc0
  clear hr0 hc0
  have HB := Aside0.mk (Below.refl w.heap.size w)
  have H : (spec_IdPunycode.l0 k l0 (⟨#[]⟩ : ByteArray) l0 (l0.length : Int) 0) = some r := h
  clear h
  have H' := Aside0.mk H
  clear H
  go_enter Tryz.func26, Tryz.ntmps26
  go_wp2
  go_loopg [3, 16] k (fun kq v3 v16 w' => ∃ (x3_1 : ByteArray) (x16_1 : Int), v3 = .string x3_1 ∧ v16 = .int .i64 x16_1 ∧ Aside0 (spec_IdPunycode.l0 kq l0 x3_1 l0 (l0.length : Int) x16_1 = some r) ∧ Aside0 (kq ≤ k) ∧ Aside0 (Below w.heap.size w w'))
  case atStart => exact ⟨((⟨#[]⟩ : ByteArray)), (0), (by first | rfl | (simp; done) | (simp [*]; done)), (by first | rfl | (simp; done) | (simp [*]; done)), H', ⟨Nat.le_refl _⟩, ⟨by repeat (first | (with_reducible first | exact HB.out | apply below_alloc | apply pw_below_drewN | apply below_drew1) | exact HB.out)⟩⟩
  case round =>
    clear H'
    obtain ⟨x3_1, x16_1, rfl, rfl, HA, HK1, HB⟩ := hrel
    cases gk with
    | zero => exact absurd HA.out (by simp [spec_IdPunycode.l0])
    | succ k1 =>
      have H := HA.out
      clear HA
      simp only [spec_IdPunycode.l0] at H
      by_cases c2 : x16_1 < (l0.length : Int)
      · rw [if_pos c2] at H
        have c2b0 : decide (x16_1 < (l0.length : Int)) = true := decide_eq_true c2
        clear c2
        by_cases c3 : 0 ≤ x16_1
        · rw [if_pos c3] at H
          have c3b0 : decide (0 ≤ x16_1) = true := decide_eq_true c3
          clear c3
          by_cases c4 : x16_1 < (l0.length : Int)
          · rw [if_pos c4] at H
            have c4b0 : decide (x16_1 < (l0.length : Int)) = true := decide_eq_true c4
            clear c4
            by_cases c5 : (rd l0 x16_1) < 128
            · rw [if_pos c5] at H
              have c5b0 : decide ((rd l0 x16_1) < 128) = true := decide_eq_true c5
              clear c5
              by_cases c6 : x3_1.size + (Utf8.encode (wrap32 (rd l0 x16_1))).size ≤ 9223372036854775807
              · rw [if_pos c6] at H
                have c6b0 := eq_true c6
                have c6b1 : decide (x3_1.size + (Utf8.encode (wrap32 (rd l0 x16_1))).size ≤ 9223372036854775807) = true := decide_eq_true c6
                try have c6b2 : (9223372036854775807 < x3_1.size + (Utf8.encode (wrap32 (rd l0 x16_1))).size) = False := eq_false (Nat.not_lt.2 c6)
                have H' := Aside0.mk H
                clear H
                have p131 : 0 ≤ (x16_1 : Int) := of_decide_eq_true (by first | (with_reducible assumption) | assumption)
                have q131 : x16_1 < (l0.length : Int) := of_decide_eq_true (by first | (with_reducible assumption) | assumption)
                obtain ⟨ad131, e131, hx131_0⟩ := Kd.at_int HR0.out x16_1 p131 q131
                cases e131
                replace hx131_0 := (HB.out.cell (World.block_lt_of_cell? w _ hx131_0)).trans hx131_0
                replace p131 := eq_true p131
                replace q131 := eq_true q131
                go_wp2
                go_roundg k1
                case measure => have := HK1.out; omega
                case rel => exact ⟨(x3_1 ++ (Utf8.encode (wrap32 (rd l0 x16_1)))), (wrap64 (x16_1 + 1)), (by first | rfl | (simp; done) | (simp [*]; done)), (by first | rfl | (simp; done) | (simp [*]; done)), H', ⟨by have := HK1.out; omega⟩, ⟨by repeat (first | (with_reducible first | exact HB.out | apply below_alloc | apply pw_below_drewN | apply below_drew1) | exact HB.out)⟩⟩
              · rw [if_neg c6] at H
                exact absurd H (by simp)
            · rw [if_neg c5] at H
              have c5b0 : decide ((rd l0 x16_1) < 128) = false := decide_eq_false c5
              clear c5
              have H' := Aside0.mk H
              clear H
              have p131 : 0 ≤ (x16_1 : Int) := of_decide_eq_true (by first | (with_reducible assumption) | assumption)
              have q131 : x16_1 < (l0.length : Int) := of_decide_eq_true (by first | (with_reducible assumption) | assumption)
              obtain ⟨ad131, e131, hx131_0⟩ := Kd.at_int HR0.out x16_1 p131 q131
              cases e131
              replace hx131_0 := (HB.out.cell (World.block_lt_of_cell? w _ hx131_0)).trans hx131_0
              replace p131 := eq_true p131
              replace q131 := eq_true q131
              go_wp2
              go_roundg k1
              case measure => have := HK1.out; omega
              case rel => exact ⟨(x3_1), (wrap64 (x16_1 + 1)), (by first | rfl | (simp; done) | (simp [*]; done)), (by first | rfl | (simp; done) | (simp [*]; done)), H', ⟨by have := HK1.out; omega⟩, ⟨by repeat (first | (with_reducible first | exact HB.out | apply below_alloc | apply pw_below_drewN | apply below_drew1) | exact HB.out)⟩⟩
          · rw [if_neg c4] at H
            exact absurd H (by simp)
        · rw [if_neg c3] at H
          exact absurd H (by simp)
      · rw [if_neg c2] at H
        have c2b0 : decide (x16_1 < (l0.length : Int)) = false := decide_eq_false c2
        clear c2
        have HC7 := Aside0.mk H
        clear H
        go_upto_if 31 with (fail)
        go_cut [3] (fun v3 wc => ∃ (kq : Nat) (x3_6 : ByteArray), v3 = .string x3_6 ∧ Aside0 (spec_IdPunycode.j1 kq l0 x3_6 (x3_1.size : Int) true = some r) ∧ Aside0 (kq ≤ k1) ∧ Aside0 (Below w.heap.size w wc))
        case first =>
          have H := HC7.out
          clear HC7
          by_cases c8 : (x3_1.size : Int) > 0
          · rw [if_pos c8] at H
            have c8b0 : decide (0 < (x3_1.size : Int)) = true := decide_eq_true c8
            have c8b1 : decide (0 < x3_1.size) = true := decide_eq_true (by omega)
            clear c8
            (first | rw [c8b0] | (simp only [i64_w, i32_w]; rw [c8b0]) | rw [c8b1] | skip)
            by_cases c9 : x3_1.size + 1 ≤ 9223372036854775807
            · rw [if_pos c9] at H
              have c9b0 := eq_true c9
              have c9b1 : decide (x3_1.size + 1 ≤ 9223372036854775807) = true := decide_eq_true c9
              try have c9b2 : (9223372036854775807 < x3_1.size + 1) = False := eq_false (Nat.not_lt.2 c9)
              have H' := Aside0.mk H
              clear H
              go_wp2
              go_meet
              case rel => exact ⟨_, (x3_1 ++ (⟨#[95]⟩ : ByteArray)), (by first | rfl | (simp; done) | (simp [*]; done)), H', ⟨by have := HK1.out; first | omega | exact Nat.le_refl _⟩, ⟨by repeat (first | (with_reducible first | exact HB.out | apply below_alloc | apply pw_below_drewN | apply below_drew1) | exact HB.out)⟩⟩
            · rw [if_neg c9] at H
              exact absurd H (by simp)
          · rw [if_neg c8] at H
            have c8b0 : decide (0 < (x3_1.size : Int)) = false := decide_eq_false c8
            have c8b1 : decide (0 < x3_1.size) = false := decide_eq_false (by omega)
            clear c8
            (first | rw [c8b0] | (simp only [i64_w, i32_w]; rw [c8b0]) | rw [c8b1] | skip)
            have H' := Aside0.mk H
            clear H
            go_wp2
            go_meet
            case rel => exact ⟨_, (x3_1), (by first | rfl | (simp; done) | (simp [*]; done)), H', ⟨by have := HK1.out; first | omega | exact Nat.le_refl _⟩, ⟨by repeat (first | (with_reducible first | exact HB.out | apply below_alloc | apply pw_below_drewN | apply below_drew1) | exact HB.out)⟩⟩
        case rest =>
          clear HC7
          try clear p1
          try clear q1
          try clear hx1
          try clear c2
          try clear c2b0
          try clear p2
          try clear c3
          try clear c3b0
          try clear p3
          try clear c4
          try clear c4b0
          try clear c5
          try clear c5b0
          try clear c6
          try clear c6b0
          try clear c6b1
          try clear c6b2
          try clear p6
          try clear c8
          try clear c8b0
          try clear c8b1
          try clear c9
          try clear c9b0
          try clear c9b1
          try clear c9b2
          try clear hx131_0
          try clear p131
          try clear q131
          obtain ⟨kq, x3_6, rfl, HA, HJ6, HB⟩ := hcut
          cases kq with
          | zero => exact absurd HA.out (by simp [spec_IdPunycode.j1])
          | succ kj6 =>
            have H := HA.out
            clear HA
            simp only [spec_IdPunycode.j1] at H
            replace H := Option.bind_eq_some_iff.mp H
            obtain ⟨t132, A100, H⟩ := H
            replace H : (spec_IdPunycode.l1 kj6 l0 x3_6 (x3_1.size : Int) true 128 0 72 t132) = some r := H
            have A10 := Aside0.mk A100
            clear A100
            have H' := Aside0.mk H
            clear H
            go_wp2_with (first | ((with_reducible refine gate_callee (f := 45) rfl ?_); refine goesL_ (some 36) rfl rfl Tryz.func45 (by kernel_rfl) rfl #[.slice A0 l0.length c0, .int .i64 128] rfl (by (try simp only [List.map_toArray, List.map_cons, List.map_nil]); first | done | rfl | (simp only [List.length_drop, List.length_take]; rfl)) ?_; (with_reducible refine (spec_idNext.calls kj6 _ _ l0 128 t132 _ ?side1 ?side2 A10.out).mono ?_); (case side1 => repeat (first | exact (Kd.C_below HR0.out HB.out) | (with_reducible refine Kd.C_alloc ?_ _) | (with_reducible refine Kd.C_drewN ?_ _) | (with_reducible refine Kd.C_drew ?_))); (case side2 => exact HC0.out); rintro e w' ⟨rfl, ⟨nd, rfl⟩⟩; refine ⟨_, rfl, ?_⟩))
            go_loopg [3, 6, 7, 8, 9, 10, 11] kj6 (fun kq v3 v6 v7 v8 v9 v10 v11 w' => ∃ (x3_3 : ByteArray) (x6_3 : Int) (x7_3 : Bool) (x8_3 : Int) (x9_3 : Int) (x10_3 : Int) (x11_3 : Int), v3 = .string x3_3 ∧ v6 = .int .i64 x6_3 ∧ v7 = .bool x7_3 ∧ v8 = .int .i64 x8_3 ∧ v9 = .int .i64 x9_3 ∧ v10 = .int .i64 x10_3 ∧ v11 = .int .i64 x11_3 ∧ Aside0 (spec_IdPunycode.l1 kq l0 x3_3 x6_3 x7_3 x8_3 x9_3 x10_3 x11_3 = some r) ∧ Aside0 (kq ≤ kj6) ∧ Aside0 (Below w.heap.size w w'))
            case atStart => exact ⟨(x3_6), ((x3_1.size : Int)), (true), (128), (0), (72), (t132), (by first | rfl | (simp; done) | (simp [*]; done)), (by first | rfl | (simp; done) | (simp [*]; done)), (by first | rfl | (simp; done) | (simp [*]; done)), (by first | rfl | (simp; done) | (simp [*]; done)), (by first | rfl | (simp; done) | (simp [*]; done)), (by first | rfl | (simp; done) | (simp [*]; done)), (by first | rfl | (simp; done) | (simp [*]; done)), H', ⟨Nat.le_refl _⟩, ⟨by repeat (first | (with_reducible first | exact HB.out | apply below_alloc | apply pw_below_drewN | apply below_drew1) | exact HB.out)⟩⟩
            case round =>
              clear H'
              try clear p1
              try clear q1
              try clear hx1
              try clear c2
              try clear c2b0
              try clear p2
              try clear c3
              try clear c3b0
              try clear p3
              try clear c4
              try clear c4b0
              try clear c5
              try clear c5b0
              try clear c6
              try clear c6b0
              try clear c6b1
              try clear c6b2
              try clear p6
              try clear c8
              try clear c8b0
              try clear c8b1
              try clear c9
              try clear c9b0
              try clear c9b1
              try clear c9b2
              try clear hx131_0
              try clear p1
              try clear p131
              try clear p2
              try clear p3
              try clear p6
              try clear q1
              try clear q131
              obtain ⟨x3_3, x6_3, x7_3, x8_3, x9_3, x10_3, x11_3, rfl, rfl, rfl, rfl, rfl, rfl, rfl, HA, HK3, HB⟩ := hrel
              cases gk with
              | zero => exact absurd HA.out (by simp [spec_IdPunycode.l1])
              | succ k3 =>
                have H := HA.out
                clear HA
                simp only [spec_IdPunycode.l1] at H
                by_cases c11 : x11_3 ≥ 0
                · rw [if_pos c11] at H
                  have c11b0 : decide (0 ≤ x11_3) = true := decide_eq_true c11
                  clear c11
                  have H' := Aside0.mk H
                  clear H
                  go_wp2
                  go_loopg [3, 6, 7, 9, 10, 53] k3 (fun kq v3 v6 v7 v9 v10 v53 w' => ∃ (x3_4 : ByteArray) (x6_4 : Int) (x7_4 : Bool) (x9_4 : Int) (x10_4 : Int) (x53_4 : Int), v3 = .string x3_4 ∧ v6 = .int .i64 x6_4 ∧ v7 = .bool x7_4 ∧ v9 = .int .i64 x9_4 ∧ v10 = .int .i64 x10_4 ∧ v53 = .int .i64 x53_4 ∧ Aside0 (spec_IdPunycode.l2 kq l0 x3_4 x6_4 x7_4 x11_3 x9_4 x10_4 l0 (l0.length : Int) x53_4 = some r) ∧ Aside0 (kq ≤ k3) ∧ Aside0 (Below w.heap.size w w'))
                  case atStart => exact ⟨(x3_3), (x6_3), (x7_3), (wrap64 (x9_3 + (wrap64 ((wrap64 (x11_3 - x8_3)) * (wrap64 (x6_3 + 1)))))), (x10_3), (0), (by first | rfl | (simp; done) | (simp [*]; done)), (by first | rfl | (simp; done) | (simp [*]; done)), (by first | rfl | (simp; done) | (simp [*]; done)), (by first | rfl | (simp; done) | (simp [*]; done)), (by first | rfl | (simp; done) | (simp [*]; done)), (by first | rfl | (simp; done) | (simp [*]; done)), H', ⟨Nat.le_refl _⟩, ⟨by repeat (first | (with_reducible first | exact HB.out | apply below_alloc | apply pw_below_drewN | apply below_drew1) | exact HB.out)⟩⟩
                  case round =>
                    clear H'
                    try clear c1
                    try clear p1
                    try clear q1
                    try clear hx1
                    try clear c2
                    try clear c2b0
                    try clear p2
                    try clear c3
                    try clear c3b0
                    try clear p3
                    try clear c4
                    try clear c4b0
                    try clear c5
                    try clear c5b0
                    try clear c6
                    try clear c6b0
                    try clear c6b1
                    try clear c6b2
                    try clear p6
                    try clear c8
                    try clear c8b0
                    try clear c8b1
                    try clear c9
                    try clear c9b0
                    try clear c9b1
                    try clear c9b2
                    try clear c11
                    try clear c11b0
                    try clear hx131_0
                    try clear p1
                    try clear p131
                    try clear p2
                    try clear p3
                    try clear p6
                    try clear q1
                    try clear q131
                    obtain ⟨x3_4, x6_4, x7_4, x9_4, x10_4, x53_4, rfl, rfl, rfl, rfl, rfl, rfl, HA, HK4, HB⟩ := hrel
                    cases gk with
                    | zero => exact absurd HA.out (by simp [spec_IdPunycode.l2])
                    | succ k4 =>
                      have H := HA.out
                      clear HA
                      simp only [spec_IdPunycode.l2] at H
                      by_cases c12 : x53_4 < (l0.length : Int)
                      · rw [if_pos c12] at H
                        have c12b0 : decide (x53_4 < (l0.length : Int)) = true := decide_eq_true c12
                        clear c12
                        by_cases c13 : 0 ≤ x53_4
                        · rw [if_pos c13] at H
                          have c13b0 : decide (0 ≤ x53_4) = true := decide_eq_true c13
                          clear c13
                          by_cases c14 : x53_4 < (l0.length : Int)
                          · rw [if_pos c14] at H
                            have c14b0 : decide (x53_4 < (l0.length : Int)) = true := decide_eq_true c14
                            clear c14
                            have HC15 := Aside0.mk H
                            clear H
                            have p134 : 0 ≤ (x53_4 : Int) := of_decide_eq_true (by first | (with_reducible assumption) | assumption)
                            have q134 : x53_4 < (l0.length : Int) := of_decide_eq_true (by first | (with_reducible assumption) | assumption)
                            obtain ⟨ad134, e134, hx134_0⟩ := Kd.at_int HR0.out x53_4 p134 q134
                            cases e134
                            replace hx134_0 := (HB.out.cell (World.block_lt_of_cell? w _ hx134_0)).trans hx134_0
                            replace p134 := eq_true p134
                            replace q134 := eq_true q134
                            go_upto_if 59 with (fail)
                            go_cut [9] (fun v9 wc => ∃ (kq : Nat) (x9_14 : Int), v9 = .int .i64 x9_14 ∧ Aside0 (spec_IdPunycode.j4 kq l0 x3_4 x6_4 x7_4 x11_3 x9_14 x10_4 (rd l0 x53_4) l0 (l0.length : Int) x53_4 = some r) ∧ Aside0 (kq ≤ k4) ∧ Aside0 (Below w.heap.size w wc))
                            case first =>
                              have H := HC15.out
                              clear HC15
                              by_cases c16 : (rd l0 x53_4) < x11_3
                              · rw [if_pos c16] at H
                                have c16b0 : decide ((rd l0 x53_4) < x11_3) = true := decide_eq_true c16
                                clear c16
                                (first | rw [c16b0] | (simp only [i64_w, i32_w]; rw [c16b0]) | rw [c16b1] | skip)
                                have H' := Aside0.mk H
                                clear H
                                go_wp2
                                go_meet
                                case rel => exact ⟨_, (wrap64 (x9_4 + 1)), (by first | rfl | (simp; done) | (simp [*]; done)), H', ⟨by have := HK1.out; have := HJ6.out; have := HK3.out; have := HK4.out; first | omega | exact Nat.le_refl _⟩, ⟨by repeat (first | (with_reducible first | exact HB.out | apply below_alloc | apply pw_below_drewN | apply below_drew1) | exact HB.out)⟩⟩
                              · rw [if_neg c16] at H
                                have c16b0 : decide ((rd l0 x53_4) < x11_3) = false := decide_eq_false c16
                                clear c16
                                (first | rw [c16b0] | (simp only [i64_w, i32_w]; rw [c16b0]) | rw [c16b1] | skip)
                                have H' := Aside0.mk H
                                clear H
                                go_wp2
                                go_meet
                                case rel => exact ⟨_, (x9_4), (by first | rfl | (simp; done) | (simp [*]; done)), H', ⟨by have := HK1.out; have := HJ6.out; have := HK3.out; have := HK4.out; first | omega | exact Nat.le_refl _⟩, ⟨by repeat (first | (with_reducible first | exact HB.out | apply below_alloc | apply pw_below_drewN | apply below_drew1) | exact HB.out)⟩⟩
                            case rest =>
                              clear HC15
                              try clear c1
                              try clear p1
                              try clear q1
                              try clear hx1
                              try clear c2
                              try clear c2b0
                              try clear p2
                              try clear c3
                              try clear c3b0
                              try clear p3
                              try clear c4
                              try clear c4b0
                              try clear c5
                              try clear c5b0
                              try clear c6
                              try clear c6b0
                              try clear c6b1
                              try clear c6b2
                              try clear p6
                              try clear c8
                              try clear c8b0
                              try clear c8b1
                              try clear c9
                              try clear c9b0
                              try clear c9b1
                              try clear c9b2
                              try clear c11
                              try clear c11b0
                              try clear c12
                              try clear c12b0
                              try clear c13
                              try clear c13b0
                              try clear p13
                              try clear q13
                              try clear hx13
                              try clear c14
                              try clear c14b0
                              try clear c16
                              try clear c16b0
                              try clear hx131_0
                              try clear hx134_0
                              try clear p1
                              try clear p131
                              try clear p134
                              try clear p2
                              try clear p3
                              try clear p6
                              try clear q1
                              try clear q131
                              try clear q134
                              obtain ⟨kq, x9_14, rfl, HA, HJ14, HB⟩ := hcut
                              cases kq with
                              | zero => exact absurd HA.out (by simp [spec_IdPunycode.j4])
                              | succ kj14 =>
                                have H := HA.out
                                clear HA
                                simp only [spec_IdPunycode.j4] at H
                                by_cases c17 : (rd l0 x53_4) = x11_3
                                · rw [if_pos c17] at H
                                  have c17b0 : ((rd l0 x53_4) == x11_3) = true := beq_iff_eq.mpr c17
                                  have c17b1 : ((rd l0 x53_4) != x11_3) = false := bne_eq_false_iff_eq.mpr c17
                                  clear c17
                                  replace H := Option.bind_eq_some_iff.mp H
                                  obtain ⟨t135, A180, H⟩ := H
                                  replace H : (if x3_4.size + t135.size ≤ 9223372036854775807 then ((spec_idAdapted.f kj14 x9_14 (wrap64 (x6_4 + 1)) x7_4).bind fun t136 => (spec_IdPunycode.l2 kj14 l0 (x3_4 ++ t135) (wrap64 (x6_4 + 1)) false x11_3 0 t136 l0 (l0.length : Int) (wrap64 (x53_4 + 1)))) else (none)) = some r := H
                                  have A18 := Aside0.mk A180
                                  clear A180
                                  by_cases c19 : x3_4.size + t135.size ≤ 9223372036854775807
                                  · rw [if_pos c19] at H
                                    have c19b0 := eq_true c19
                                    have c19b1 : decide (x3_4.size + t135.size ≤ 9223372036854775807) = true := decide_eq_true c19
                                    try have c19b2 : (9223372036854775807 < x3_4.size + t135.size) = False := eq_false (Nat.not_lt.2 c19)
                                    replace H := Option.bind_eq_some_iff.mp H
                                    obtain ⟨t136, A200, H⟩ := H
                                    replace H : (spec_IdPunycode.l2 kj14 l0 (x3_4 ++ t135) (wrap64 (x6_4 + 1)) false x11_3 0 t136 l0 (l0.length : Int) (wrap64 (x53_4 + 1))) = some r := H
                                    have A20 := Aside0.mk A200
                                    clear A200
                                    have H' := Aside0.mk H
                                    clear H
                                    go_wp2_with (first | ((with_reducible refine gate_callee (f := 46) rfl ?_); refine goesL_ (some 68) rfl rfl Tryz.func46 (by kernel_rfl) rfl #[.int .i64 x9_14, .int .i64 x10_4] rfl (by (try simp only [List.map_toArray, List.map_cons, List.map_nil]); first | done | rfl | (simp only [List.length_drop, List.length_take]; rfl)) ?_; (with_reducible refine (spec_idDelta.calls kj14 x9_14 x10_4 t135 _ A18.out).mono ?_); rintro e w21 ⟨rfl, hb⟩; refine ⟨_, rfl, ?_⟩; have n0_ := Aside0.mk (below_step (by repeat (first | (with_reducible first | exact HB.out | apply below_alloc | apply pw_below_drewN | apply below_drew1) | exact HB.out)) hb); clear HB; have HB := n0_; clear n0_; (try clear hb); (try clear hb2); (try clear hk); (try clear hi)) | ((with_reducible refine gate_callee (f := 47) rfl ?_); refine goesL_ (some 74) rfl rfl Tryz.func47 (by kernel_rfl) rfl #[.int .i64 x9_14, .int .i64 (wrap64 (x6_4 + 1)), .bool x7_4] rfl (by (try simp only [List.map_toArray, List.map_cons, List.map_nil]); first | done | rfl | (simp only [List.length_drop, List.length_take]; rfl)) ?_; (with_reducible refine (spec_idAdapted.calls kj14 x9_14 (wrap64 (x6_4 + 1)) x7_4 t136 _ A20.out).mono ?_); rintro e w' ⟨rfl, ⟨nd, rfl⟩⟩; refine ⟨_, rfl, ?_⟩))
                                    go_roundg kj14
                                    case measure => have := HK1.out; have := HJ6.out; have := HK3.out; have := HK4.out; have := HJ14.out; omega
                                    case rel => exact ⟨(x3_4 ++ t135), (wrap64 (x6_4 + 1)), (false), (0), (t136), (wrap64 (x53_4 + 1)), (by first | rfl | (simp; done) | (simp [*]; done)), (by first | rfl | (simp; done) | (simp [*]; done)), (by first | rfl | (simp; done) | (simp [*]; done)), (by first | rfl | (simp; done) | (simp [*]; done)), (by first | rfl | (simp; done) | (simp [*]; done)), (by first | rfl | (simp; done) | (simp [*]; done)), H', ⟨by have := HK1.out; have := HJ6.out; have := HK3.out; have := HK4.out; have := HJ14.out; omega⟩, ⟨by repeat (first | (with_reducible first | exact HB.out | apply below_alloc | apply pw_below_drewN | apply below_drew1) | exact HB.out)⟩⟩
                                  · rw [if_neg c19] at H
                                    exact absurd H (by simp)
                                · rw [if_neg c17] at H
                                  have c17b0 : ((rd l0 x53_4) == x11_3) = false := beq_eq_false_iff_ne.mpr c17
                                  have c17b1 : ((rd l0 x53_4) != x11_3) = true := bne_iff_ne.mpr c17
                                  have H' := Aside0.mk H
                                  clear H
                                  go_wp2
                                  go_roundg kj14
                                  case measure => have := HK1.out; have := HJ6.out; have := HK3.out; have := HK4.out; have := HJ14.out; omega
                                  case rel => exact ⟨(x3_4), (x6_4), (x7_4), (x9_14), (x10_4), (wrap64 (x53_4 + 1)), (by first | rfl | (simp; done) | (simp [*]; done)), (by first | rfl | (simp; done) | (simp [*]; done)), (by first | rfl | (simp; done) | (simp [*]; done)), (by first | rfl | (simp; done) | (simp [*]; done)), (by first | rfl | (simp; done) | (simp [*]; done)), (by first | rfl | (simp; done) | (simp [*]; done)), H', ⟨by have := HK1.out; have := HJ6.out; have := HK3.out; have := HK4.out; have := HJ14.out; omega⟩, ⟨by repeat (first | (with_reducible first | exact HB.out | apply below_alloc | apply pw_below_drewN | apply below_drew1) | exact HB.out)⟩⟩
                          · rw [if_neg c14] at H
                            exact absurd H (by simp)
                        · rw [if_neg c13] at H
                          exact absurd H (by simp)
                      · rw [if_neg c12] at H
                        have c12b0 : decide (x53_4 < (l0.length : Int)) = false := decide_eq_false c12
                        clear c12
                        replace H := Option.bind_eq_some_iff.mp H
                        obtain ⟨t133, A220, H⟩ := H
                        replace H : (spec_IdPunycode.l1 k4 l0 x3_4 x6_4 x7_4 (wrap64 (x11_3 + 1)) (wrap64 (x9_4 + 1)) x10_4 t133) = some r := H
                        have A22 := Aside0.mk A220
                        clear A220
                        have H' := Aside0.mk H
                        clear H
                        go_wp2_with (first | ((with_reducible refine gate_callee (f := 45) rfl ?_); refine goesL_ (some 41) rfl rfl Tryz.func45 (by kernel_rfl) rfl #[.slice A0 l0.length c0, .int .i64 (wrap64 (x11_3 + 1))] rfl (by (try simp only [List.map_toArray, List.map_cons, List.map_nil]); first | done | rfl | (simp only [List.length_drop, List.length_take]; rfl)) ?_; (with_reducible refine (spec_idNext.calls k4 _ _ l0 (wrap64 (x11_3 + 1)) t133 _ ?side1 ?side2 A22.out).mono ?_); (case side1 => repeat (first | exact (Kd.C_below HR0.out HB.out) | (with_reducible refine Kd.C_alloc ?_ _) | (with_reducible refine Kd.C_drewN ?_ _) | (with_reducible refine Kd.C_drew ?_))); (case side2 => exact HC0.out); rintro e w' ⟨rfl, ⟨nd, rfl⟩⟩; refine ⟨_, rfl, ?_⟩))
                        go_roundg k4
                        case measure => have := HK1.out; have := HJ6.out; have := HK3.out; have := HK4.out; omega
                        case rel => exact ⟨(x3_4), (x6_4), (x7_4), (wrap64 (x11_3 + 1)), (wrap64 (x9_4 + 1)), (x10_4), (t133), (by first | rfl | (simp; done) | (simp [*]; done)), (by first | rfl | (simp; done) | (simp [*]; done)), (by first | rfl | (simp; done) | (simp [*]; done)), (by first | rfl | (simp; done) | (simp [*]; done)), (by first | rfl | (simp; done) | (simp [*]; done)), (by first | rfl | (simp; done) | (simp [*]; done)), (by first | rfl | (simp; done) | (simp [*]; done)), H', ⟨by have := HK1.out; have := HJ6.out; have := HK3.out; have := HK4.out; omega⟩, ⟨by repeat (first | (with_reducible first | exact HB.out | apply below_alloc | apply pw_below_drewN | apply below_drew1) | exact HB.out)⟩⟩
                · rw [if_neg c11] at H
                  have c11b0 : decide (0 ≤ x11_3) = false := decide_eq_false c11
                  clear c11
                  obtain rfl := Option.some.inj H
                  go_wp2
                  go_ret
                  exact ⟨by first | rfl | (simp [errW_none, errW_some] <;> rfl) | (simp [*, errW_none, errW_some] <;> rfl), by repeat (first | (with_reducible first | exact HB.out | apply below_alloc | apply pw_below_drewN | apply below_drew1) | exact HB.out)⟩

/-! ### spec_IdWritten: function 18 -/
def spec_IdWritten.f (k : Nat) (a0 : ByteArray) : Option (ByteArray) := if a0.toList = ([] : List UInt8) then (some (⟨#[48, 95]⟩ : ByteArray)) else ((spec_IdIsPlain.f k a0).bind fun t137 => (if t137 = true then ((spec_idCounted.f a0).bind fun t138 => (some t138)) else ((spec_IdCharacters.f a0).bind fun bt139 => ((spec_IdPunycode.f k bt139.1).bind fun t143 => ((spec_idCounted.f t143).bind fun t144 => (if 1 + t144.size ≤ 9223372036854775807 then (some ((⟨#[117]⟩ : ByteArray) ++ t144)) else (none)))))))
theorem spec_IdWritten.mono : ∀ a0 k, LeO (spec_IdWritten.f k a0) (spec_IdWritten.f (k + 1) a0) := by
  intro a0 k
  unfold spec_IdWritten.f
  repeat' first
      | (with_reducible exact spec_IdIsPlain.mono _ _)
      | (with_reducible exact spec_IdPunycode.mono _ _)
      | (with_reducible exact LeO.refl _)
      | (with_reducible exact LeO.none _)
      | (with_reducible refine LeO.ite ?_ ?_)
      | (with_reducible refine LeO.bind ?_ (fun _ => ?_))
      | exact spec_IdIsPlain.mono _ _
      | exact spec_IdPunycode.mono _ _
      | exact LeO.none _
      | refine LeO.ite ?_ ?_
      | refine LeO.bind ?_ (fun _ => ?_)
set_option maxHeartbeats 8000000 in
set_option maxRecDepth 100000 in
theorem spec_IdWritten.calls (k : Nat) (a0 : ByteArray) (r : ByteArray) (w : World) (hT_ : DoorU w) (h : spec_IdWritten.f k a0 = some r) :
    Calls Tryz.prog 18 #[.string a0] w fun e w' => e = .returned (.string r) ∧ Below w.heap.size w w' := by
  have HB := Aside0.mk (Below.refl w.heap.size w)
  have H : (if a0.toList = ([] : List UInt8) then (some (⟨#[48, 95]⟩ : ByteArray)) else ((spec_IdIsPlain.f k a0).bind fun t137 => (if t137 = true then ((spec_idCounted.f a0).bind fun t138 => (some t138)) else ((spec_IdCharacters.f a0).bind fun bt139 => ((spec_IdPunycode.f k bt139.1).bind fun t143 => ((spec_idCounted.f t143).bind fun t144 => (if 1 + t144.size ≤ 9223372036854775807 then (some ((⟨#[117]⟩ : ByteArray) ++ t144)) else (none)))))))) = some r := h
  clear h
  by_cases c2 : a0.toList = ([] : List UInt8)
  · rw [if_pos c2] at H
    have c2b0 : (a0.toList == ([] : List UInt8)) = true := beq_iff_eq.mpr c2
    have c2b1 : (a0.toList != ([] : List UInt8)) = false := bne_eq_false_iff_eq.mpr c2
    clear c2
    obtain rfl := Option.some.inj H
    go_enter Tryz.func18, Tryz.ntmps18
    go_wp2
    go_ret
    exact ⟨by first | rfl | (simp [errW_none, errW_some] <;> rfl) | (simp [*, errW_none, errW_some] <;> rfl), by repeat (first | (with_reducible first | exact HB.out | apply below_alloc | apply pw_below_drewN | apply below_drew1) | exact HB.out)⟩
  · rw [if_neg c2] at H
    have c2b0 : (a0.toList == ([] : List UInt8)) = false := beq_eq_false_iff_ne.mpr c2
    have c2b1 : (a0.toList != ([] : List UInt8)) = true := bne_iff_ne.mpr c2
    replace H := Option.bind_eq_some_iff.mp H
    obtain ⟨t137, A30, H⟩ := H
    replace H : (if t137 = true then ((spec_idCounted.f a0).bind fun t138 => (some t138)) else ((spec_IdCharacters.f a0).bind fun bt139 => ((spec_IdPunycode.f k bt139.1).bind fun t143 => ((spec_idCounted.f t143).bind fun t144 => (if 1 + t144.size ≤ 9223372036854775807 then (some ((⟨#[117]⟩ : ByteArray) ++ t144)) else (none)))))) = some r := H
    have A3 := Aside0.mk A30
    clear A30
    by_cases c4 : t137 = true
    · subst c4
      have H1 : ((spec_idCounted.f a0).bind fun t138 => (some t138)) = some r := by rw [if_pos rfl] at H; exact H
      clear H
      have H := H1
      clear H1
      replace H := Option.bind_eq_some_iff.mp H
      obtain ⟨t138, A50, H⟩ := H
      replace H : (some t138) = some r := H
      have A5 := Aside0.mk A50
      clear A50
      obtain rfl := Option.some.inj H
      go_enter Tryz.func18, Tryz.ntmps18
      go_wp2_with (first | ((with_reducible refine gate_callee (f := 23) rfl ?_); refine goesL_ (some 8) rfl rfl Tryz.func23 (by kernel_rfl) rfl #[.string a0] rfl (by (try simp only [List.map_toArray, List.map_cons, List.map_nil]); first | done | rfl | (simp only [List.length_drop, List.length_take]; rfl)) ?_; (with_reducible refine (spec_IdIsPlain.calls k a0 true _ A3.out).mono ?_); rintro e w' ⟨rfl, ⟨nd, rfl⟩⟩; refine ⟨_, rfl, ?_⟩) | ((with_reducible refine gate_callee (f := 24) rfl ?_); refine goesL_ (some 10) rfl rfl Tryz.func24 (by kernel_rfl) rfl #[.string a0] rfl (by (try simp only [List.map_toArray, List.map_cons, List.map_nil]); first | done | rfl | (simp only [List.length_drop, List.length_take]; rfl)) ?_; (with_reducible refine (spec_idCounted.calls a0 t138 _ (show DoorU _ from ?side1) A5.out).mono ?_); (case side1 => exact Stays.below hT_ (by first | (repeat (first | (with_reducible first | exact HB.out | apply below_alloc | apply pw_below_drewN | apply below_drew1) | exact HB.out)) | (repeat (first | exact Below.refl _ _ | apply below_drew1 | apply pw_below_drewN)))); rintro e w6 ⟨rfl, hb⟩; refine ⟨_, rfl, ?_⟩; have n0_ := Aside0.mk (below_step (by repeat (first | (with_reducible first | exact HB.out | apply below_alloc | apply pw_below_drewN | apply below_drew1) | exact HB.out)) hb); clear HB; have HB := n0_; clear n0_; (try clear hb); (try clear hb2); (try clear hk); (try clear hi)))
      go_ret
      exact ⟨by first | rfl | (simp [errW_none, errW_some] <;> rfl) | (simp [*, errW_none, errW_some] <;> rfl), by repeat (first | (with_reducible first | exact HB.out | apply below_alloc | apply pw_below_drewN | apply below_drew1) | exact HB.out)⟩
    · replace c4 := Bool.eq_false_iff.mpr c4
      subst c4
      have H1 : ((spec_IdCharacters.f a0).bind fun bt139 => ((spec_IdPunycode.f k bt139.1).bind fun t143 => ((spec_idCounted.f t143).bind fun t144 => (if 1 + t144.size ≤ 9223372036854775807 then (some ((⟨#[117]⟩ : ByteArray) ++ t144)) else (none))))) = some r := by rw [if_neg (show ¬ (false = true) by decide)] at H; exact H
      clear H
      have H := H1
      clear H1
      replace H := Option.bind_eq_some_iff.mp H
      obtain ⟨⟨t139, t140⟩, A70, H⟩ := H
      replace H : ((spec_IdPunycode.f k t139).bind fun t143 => ((spec_idCounted.f t143).bind fun t144 => (if 1 + t144.size ≤ 9223372036854775807 then (some ((⟨#[117]⟩ : ByteArray) ++ t144)) else (none)))) = some r := H
      have A7 := Aside0.mk A70
      clear A70
      replace H := Option.bind_eq_some_iff.mp H
      obtain ⟨t143, A80, H⟩ := H
      replace H : ((spec_idCounted.f t143).bind fun t144 => (if 1 + t144.size ≤ 9223372036854775807 then (some ((⟨#[117]⟩ : ByteArray) ++ t144)) else (none))) = some r := H
      have A8 := Aside0.mk A80
      clear A80
      replace H := Option.bind_eq_some_iff.mp H
      obtain ⟨t144, A90, H⟩ := H
      replace H : (if 1 + t144.size ≤ 9223372036854775807 then (some ((⟨#[117]⟩ : ByteArray) ++ t144)) else (none)) = some r := H
      have A9 := Aside0.mk A90
      clear A90
      by_cases c10 : 1 + t144.size ≤ 9223372036854775807
      · rw [if_pos c10] at H
        have c10b0 := eq_true c10
        have c10b1 : decide (1 + t144.size ≤ 9223372036854775807) = true := decide_eq_true c10
        try have c10b2 : (9223372036854775807 < 1 + t144.size) = False := eq_false (Nat.not_lt.2 c10)
        obtain rfl := Option.some.inj H
        go_enter Tryz.func18, Tryz.ntmps18
        go_wp2_with (first | ((with_reducible refine gate_callee (f := 23) rfl ?_); refine goesL_ (some 8) rfl rfl Tryz.func23 (by kernel_rfl) rfl #[.string a0] rfl (by (try simp only [List.map_toArray, List.map_cons, List.map_nil]); first | done | rfl | (simp only [List.length_drop, List.length_take]; rfl)) ?_; (with_reducible refine (spec_IdIsPlain.calls k a0 false _ A3.out).mono ?_); rintro e w' ⟨rfl, ⟨nd, rfl⟩⟩; refine ⟨_, rfl, ?_⟩) | ((with_reducible refine gate_callee (f := 25) rfl ?_); refine goesL_ (some 13) rfl rfl Tryz.func25 (by kernel_rfl) rfl #[.string a0] rfl (by (try simp only [List.map_toArray, List.map_cons, List.map_nil]); first | done | rfl | (simp only [List.length_drop, List.length_take]; rfl)) ?_; (with_reducible refine (spec_IdCharacters.calls a0 t139 t140 _ (show DoorU _ from ?side1) A7.out).mono ?_); (case side1 => exact Stays.below hT_ (by first | (repeat (first | (with_reducible first | exact HB.out | apply below_alloc | apply pw_below_drewN | apply below_drew1) | exact HB.out)) | (repeat (first | exact Below.refl _ _ | apply below_drew1 | apply pw_below_drewN)))); rintro e w11 ⟨v141, rfl, ho0, hb⟩; refine ⟨_, rfl, ?_⟩; have n0_ := Aside0.mk (Kd.R_lower ho0 (below_size (by repeat (first | (with_reducible first | exact HB.out | apply below_alloc | apply pw_below_drewN | apply below_drew1) | exact HB.out)))); have n1_ := Aside0.mk (below_step (by repeat (first | (with_reducible first | exact HB.out | apply below_alloc | apply pw_below_drewN | apply below_drew1) | exact HB.out)) hb); clear HB; have HO142 := n0_; have HB := n1_; clear n0_ n1_; (try clear hb); (try clear hb2); (try clear hk); (try clear hi); (try clear ho0); obtain ⟨Ao12, co12, eo12⟩ := Kd.R_slice HO142.out; subst eo12) | ((with_reducible refine gate_callee (f := 26) rfl ?_); refine goesL_ (some 17) rfl rfl Tryz.func26 (by kernel_rfl) rfl #[.slice Ao12 t139.length co12] rfl (by (try simp only [List.map_toArray, List.map_cons, List.map_nil]); first | done | rfl | (simp only [List.length_drop, List.length_take]; rfl)) ?_; (with_reducible refine (spec_IdPunycode.calls k _ _ t139 t143 _ ?side1 ?side2 A8.out).mono ?_); (case side1 => repeat (first | exact (Kd.R_reads' HO142.out).2.2 | (with_reducible refine Kd.C_alloc ?_ _) | (with_reducible refine Kd.C_drewN ?_ _) | (with_reducible refine Kd.C_drew ?_))); (case side2 => exact (Kd.R_reads' HO142.out).2.1); rintro e w13 ⟨rfl, hb⟩; refine ⟨_, rfl, ?_⟩; have n0_ := Aside0.mk (Kd.R_below (by (with_reducible repeat (first | apply Kd.R_alloc | apply Kd.R_drewN | apply Kd.R_drew)); exact HO142.out) hb); have n1_ := Aside0.mk (below_step (by repeat (first | (with_reducible first | exact HB.out | apply below_alloc | apply pw_below_drewN | apply below_drew1) | exact HB.out)) hb); clear HO142; clear HB; have HO142 := n0_; have HB := n1_; clear n0_ n1_; (try clear hb); (try clear hb2); (try clear hk); (try clear hi)) | ((with_reducible refine gate_callee (f := 24) rfl ?_); refine goesL_ (some 18) rfl rfl Tryz.func24 (by kernel_rfl) rfl #[.string t143] rfl (by (try simp only [List.map_toArray, List.map_cons, List.map_nil]); first | done | rfl | (simp only [List.length_drop, List.length_take]; rfl)) ?_; (with_reducible refine (spec_idCounted.calls t143 t144 _ (show DoorU _ from ?side1) A9.out).mono ?_); (case side1 => exact Stays.below hT_ (by first | (repeat (first | (with_reducible first | exact HB.out | apply below_alloc | apply pw_below_drewN | apply below_drew1) | exact HB.out)) | (repeat (first | exact Below.refl _ _ | apply below_drew1 | apply pw_below_drewN)))); rintro e w14 ⟨rfl, hb⟩; refine ⟨_, rfl, ?_⟩; have n0_ := Aside0.mk (Kd.R_below (by (with_reducible repeat (first | apply Kd.R_alloc | apply Kd.R_drewN | apply Kd.R_drew)); exact HO142.out) hb); have n1_ := Aside0.mk (below_step (by repeat (first | (with_reducible first | exact HB.out | apply below_alloc | apply pw_below_drewN | apply below_drew1) | exact HB.out)) hb); clear HO142; clear HB; have HO142 := n0_; have HB := n1_; clear n0_ n1_; (try clear hb); (try clear hb2); (try clear hk); (try clear hi)))
        go_ret
        exact ⟨by first | rfl | (simp [errW_none, errW_some] <;> rfl) | (simp [*, errW_none, errW_some] <;> rfl), by repeat (first | (with_reducible first | exact HB.out | apply below_alloc | apply pw_below_drewN | apply below_drew1) | exact HB.out)⟩
      · rw [if_neg c10] at H
        exact absurd H (by simp)

/-! ### spec_idIdentifier: function 12 -/
def spec_idIdentifier.f (k : Nat) (a0 : ByteArray) (a1 : Int) : Option (ByteArray) := (spec_IdDisambiguator.f k a1).bind fun t145 => ((spec_IdWritten.f k a0).bind fun t146 => (if t145.size + t146.size ≤ 9223372036854775807 then (some (t145 ++ t146)) else (none)))
theorem spec_idIdentifier.mono : ∀ a0 a1 k, LeO (spec_idIdentifier.f k a0 a1) (spec_idIdentifier.f (k + 1) a0 a1) := by
  intro a0 a1 k
  unfold spec_idIdentifier.f
  repeat' first
      | (with_reducible exact spec_IdDisambiguator.mono _ _)
      | (with_reducible exact spec_IdWritten.mono _ _)
      | (with_reducible exact LeO.refl _)
      | (with_reducible exact LeO.none _)
      | (with_reducible refine LeO.ite ?_ ?_)
      | (with_reducible refine LeO.bind ?_ (fun _ => ?_))
      | exact spec_IdDisambiguator.mono _ _
      | exact spec_IdWritten.mono _ _
      | exact LeO.none _
      | refine LeO.ite ?_ ?_
      | refine LeO.bind ?_ (fun _ => ?_)
set_option maxHeartbeats 8000000 in
set_option maxRecDepth 100000 in
theorem spec_idIdentifier.calls (k : Nat) (a0 : ByteArray) (a1 : Int) (r : ByteArray) (w : World) (hT_ : DoorU w) (h : spec_idIdentifier.f k a0 a1 = some r) :
    Calls Tryz.prog 12 #[.string a0, .int .u64 a1] w fun e w' => e = .returned (.string r) ∧ Below w.heap.size w w' := by
  have HB := Aside0.mk (Below.refl w.heap.size w)
  have H : ((spec_IdDisambiguator.f k a1).bind fun t145 => ((spec_IdWritten.f k a0).bind fun t146 => (if t145.size + t146.size ≤ 9223372036854775807 then (some (t145 ++ t146)) else (none)))) = some r := h
  clear h
  replace H := Option.bind_eq_some_iff.mp H
  obtain ⟨t145, A30, H⟩ := H
  replace H : ((spec_IdWritten.f k a0).bind fun t146 => (if t145.size + t146.size ≤ 9223372036854775807 then (some (t145 ++ t146)) else (none))) = some r := H
  have A3 := Aside0.mk A30
  clear A30
  replace H := Option.bind_eq_some_iff.mp H
  obtain ⟨t146, A40, H⟩ := H
  replace H : (if t145.size + t146.size ≤ 9223372036854775807 then (some (t145 ++ t146)) else (none)) = some r := H
  have A4 := Aside0.mk A40
  clear A40
  by_cases c5 : t145.size + t146.size ≤ 9223372036854775807
  · rw [if_pos c5] at H
    have c5b0 := eq_true c5
    have c5b1 : decide (t145.size + t146.size ≤ 9223372036854775807) = true := decide_eq_true c5
    try have c5b2 : (9223372036854775807 < t145.size + t146.size) = False := eq_false (Nat.not_lt.2 c5)
    obtain rfl := Option.some.inj H
    go_enter Tryz.func12, Tryz.ntmps12
    go_wp2_with (first | ((with_reducible refine gate_callee (f := 13) rfl ?_); refine goesL_ (some 6) rfl rfl Tryz.func13 (by kernel_rfl) rfl #[.int .u64 a1] rfl (by (try simp only [List.map_toArray, List.map_cons, List.map_nil]); first | done | rfl | (simp only [List.length_drop, List.length_take]; rfl)) ?_; (with_reducible refine (spec_IdDisambiguator.calls k a1 t145 _ A3.out).mono ?_); rintro e w' ⟨rfl, ⟨nd, rfl⟩⟩; refine ⟨_, rfl, ?_⟩) | ((with_reducible refine gate_callee (f := 18) rfl ?_); refine goesL_ (some 8) rfl rfl Tryz.func18 (by kernel_rfl) rfl #[.string a0] rfl (by (try simp only [List.map_toArray, List.map_cons, List.map_nil]); first | done | rfl | (simp only [List.length_drop, List.length_take]; rfl)) ?_; (with_reducible refine (spec_IdWritten.calls k a0 t146 _ (show DoorU _ from ?side1) A4.out).mono ?_); (case side1 => exact Stays.below hT_ (by first | (repeat (first | (with_reducible first | exact HB.out | apply below_alloc | apply pw_below_drewN | apply below_drew1) | exact HB.out)) | (repeat (first | exact Below.refl _ _ | apply below_drew1 | apply pw_below_drewN)))); rintro e w6 ⟨rfl, hb⟩; refine ⟨_, rfl, ?_⟩; have n0_ := Aside0.mk (below_step (by repeat (first | (with_reducible first | exact HB.out | apply below_alloc | apply pw_below_drewN | apply below_drew1) | exact HB.out)) hb); clear HB; have HB := n0_; clear n0_; (try clear hb); (try clear hb2); (try clear hk); (try clear hi)))
    go_ret
    exact ⟨by first | rfl | (simp [errW_none, errW_some] <;> rfl) | (simp [*, errW_none, errW_some] <;> rfl), by repeat (first | (with_reducible first | exact HB.out | apply below_alloc | apply pw_below_drewN | apply below_drew1) | exact HB.out)⟩
  · rw [if_neg c5] at H
    exact absurd H (by simp)

end Go.Proofs.YtkhbmkccbhkolaaGreatDoor.PFnUnicodeNames
