/- Written by a program of this session (wip/tools/myprint.py) with the kit's print: contracts of the functions that one statement reaches; functions that are proved by hand are taken as printed. Conditions: none. -/
import Derived.Test.YtpmlnhddkbgefaaDoorPFnLegacyOptionsx0
namespace Go.Proofs.YtpmlnhddkbgefaaDoor.PFnLegacyOptions
open Go.RowKit Go.Proofs.YtpmlnhddkbgefaaDoorW.PrintWords Go.Proofs.YtpmlnhddkbgefaaDoorW.PrintLast Go.Proofs.YtpmlnhddkbgefaaDoorW.PrintMore
attribute [local go_sem] max2_int min2_int max_two min_two max_three min_three max_four min_four   -- for this text's walks alone
set_option linter.unusedVariables false
set_option linter.unusedSimpArgs false

/-! ### laws_lgHash: function 28 -/
def laws_lgHash.f (l0 : List Int) : Option (ByteArray × Bool) := (spec_LgHash.f l0).bind fun bt166 => (some (bt166.1, decide (bt166.2 ≥ 8)))
set_option maxHeartbeats 8000000 in
set_option maxRecDepth 100000 in
theorem laws_lgHash.calls (A0 : Option Addr) (c0 : Nat) (l0 : List Int) (r1 : ByteArray) (r2 : Bool) (w : World) (hr0 : Kd.C (Kd.int .u8) w A0 l0.length l0) (hc0 : l0.length ≤ c0) (h : laws_lgHash.f l0 = some (r1, r2)) :
    Calls Tryd.prog 28 #[.slice A0 l0.length c0] w fun e w' => e = .returned (.tuple #[.string r1, .bool r2]) ∧ Below w.heap.size w w' := by
  have HR0 := Aside0.mk hr0
  have HC0 := Aside0.mk hc0
  clear hr0 hc0
  have HB := Aside0.mk (Below.refl w.heap.size w)
  have H : ((spec_LgHash.f l0).bind fun bt166 => (some (bt166.1, decide (bt166.2 ≥ 8)))) = some (r1, r2) := h
  clear h
  replace H := Option.bind_eq_some_iff.mp H
  obtain ⟨⟨t166, t167⟩, A20, H⟩ := H
  replace H : (some (t166, decide (t167 ≥ 8))) = some (r1, r2) := H
  have A2 := Aside0.mk A20
  clear A20
  simp only [Option.some.injEq, Prod.mk.injEq] at H
  obtain ⟨rfl, rfl⟩ := H
  go_enter Tryd.func28, Tryd.ntmps28
  go_wp2_with (first | (go_at_call 32; refine (idCut_at _ _ _ _ _ _ (by assumption) (by assumption)).mono ?_; rintro e w_ ⟨rfl, rfl⟩) | ((with_reducible refine gate_callee (f := 47) rfl ?_); refine goesL_ (some 8) rfl rfl Tryd.func47 (by kernel_rfl) rfl #[.slice A0 l0.length c0] rfl (by (try simp only [List.map_toArray, List.map_cons, List.map_nil]); first | done | rfl | (simp only [List.length_drop, List.length_take]; rfl)) ?_; (with_reducible refine (spec_LgHash.calls _ _ l0 t166 t167 _ ?side1 ?side2 A2.out).mono ?_); (case side1 => repeat (first | exact HR0.out | (with_reducible refine Kd.C_alloc ?_ _) | (with_reducible refine Kd.C_drewN ?_ _) | (with_reducible refine Kd.C_drew ?_))); (case side2 => exact HC0.out); rintro e w3 ⟨rfl, hb⟩; refine ⟨_, rfl, ?_⟩; have n0_ := Aside0.mk (below_step (by repeat (first | (with_reducible first | exact HB.out | apply below_alloc | apply pw_below_drewN | apply below_drew1) | exact HB.out)) hb); clear HB; have HB := n0_; clear n0_; (try clear hb); (try clear hb2); (try clear hk); (try clear hi)))
  go_ret2
  exact ⟨by first | rfl | (simp [errW_none, errW_some] <;> rfl) | (simp [*, errW_none, errW_some] <;> rfl), by repeat (first | (with_reducible first | exact HB.out | apply below_alloc | apply pw_below_drewN | apply below_drew1) | exact HB.out)⟩

/-! ### spec_LgPath: function 30 -/
def spec_LgPath.l0 : Nat → ByteArray → List ByteArray → Int → Int → Option (ByteArray)
  | 0, _, _, _, _ => none
  | k + 1, x3, x6, x7, x8 => if x8 < x7 then (if 0 ≤ x8 then (if x8 < (x6.length : Int) then (if x8 > 0 then (if x3.size + 2 ≤ 9223372036854775807 then (if (x3 ++ (⟨#[58, 58]⟩ : ByteArray)).size + (rdOf ByteArray.empty x6 x8).size ≤ 9223372036854775807 then (spec_LgPath.l0 k ((x3 ++ (⟨#[58, 58]⟩ : ByteArray)) ++ (rdOf ByteArray.empty x6 x8)) x6 x7 (wrap64 (x8 + 1))) else (none)) else (none)) else (if x3.size + (rdOf ByteArray.empty x6 x8).size ≤ 9223372036854775807 then (spec_LgPath.l0 k (x3 ++ (rdOf ByteArray.empty x6 x8)) x6 x7 (wrap64 (x8 + 1))) else (none))) else (none)) else (none)) else (some x3)
def spec_LgPath.f (k : Nat) (l0 : List ByteArray) : Option (ByteArray) := spec_LgPath.l0 k (⟨#[]⟩ : ByteArray) l0 (l0.length : Int) 0
theorem spec_LgPath.mono_l : ∀ k, (∀ y0 y1 y2 y3, LeO (spec_LgPath.l0 k y0 y1 y2 y3) (spec_LgPath.l0 (k + 1) y0 y1 y2 y3))
  | 0 => fun _ _ _ _ r h => by simp [spec_LgPath.l0] at h
  | k + 1 => by
    have ih0 := spec_LgPath.mono_l k
    · intro y0 y1 y2 y3
      unfold spec_LgPath.l0
      repeat' first
      | (with_reducible exact ih0 _ _ _ _)
      | (with_reducible exact LeO.refl _)
      | (with_reducible exact LeO.none _)
      | (with_reducible refine LeO.ite ?_ ?_)
      | (with_reducible refine LeO.bind ?_ (fun _ => ?_))
      | exact ih0 _ _ _ _
      | exact LeO.none _
      | refine LeO.ite ?_ ?_
      | refine LeO.bind ?_ (fun _ => ?_)
theorem spec_LgPath.mono : ∀ a0 k, LeO (spec_LgPath.f k a0) (spec_LgPath.f (k + 1) a0) := by
  intro a0 k
  have ih0 := spec_LgPath.mono_l k
  unfold spec_LgPath.f
  repeat' first
      | (with_reducible exact ih0 _ _ _ _)
      | (with_reducible exact LeO.refl _)
      | (with_reducible exact LeO.none _)
      | (with_reducible refine LeO.ite ?_ ?_)
      | (with_reducible refine LeO.bind ?_ (fun _ => ?_))
      | exact ih0 _ _ _ _
      | exact LeO.none _
      | refine LeO.ite ?_ ?_
      | refine LeO.bind ?_ (fun _ => ?_)
set_option maxHeartbeats 8000000 in
set_option maxRecDepth 100000 in
theorem spec_LgPath.calls (k : Nat) (A0 : Option Addr) (c0 : Nat) (l0 : List ByteArray) (r : ByteArray) (w : World) (hr0 : Kd.C Kd.string w A0 l0.length l0) (hc0 : l0.length ≤ c0) (h : spec_LgPath.f k l0 = some r) :
    Calls Tryd.prog 30 #[.slice A0 l0.length c0] w fun e w' => e = .returned (.string r) ∧ Drawn0 w w' := by
  have HR0 := Aside0.mk hr0
  have HC0 := Aside0.mk hc0
  clear hr0 hc0
  have H : (spec_LgPath.l0 k (⟨#[]⟩ : ByteArray) l0 (l0.length : Int) 0) = some r := h
  clear h
  have H' := Aside0.mk H
  clear H
  go_enter Tryd.func30, Tryd.ntmps30
  go_wp2
  go_loopg [3, 8] k (fun kq v3 v8 w' => ∃ (x3_1 : ByteArray) (x8_1 : Int), v3 = .string x3_1 ∧ v8 = .int .i64 x8_1 ∧ Aside0 (spec_LgPath.l0 kq x3_1 l0 (l0.length : Int) x8_1 = some r) ∧ Aside0 (kq ≤ k) ∧ Drawn0 w w')
  case atStart => exact ⟨((⟨#[]⟩ : ByteArray)), (0), (by first | rfl | (simp; done) | (simp [*]; done)), (by first | rfl | (simp; done) | (simp [*]; done)), H', ⟨Nat.le_refl _⟩, by repeat (first | exact Drawn0.refl _ | apply Drawn0.step)⟩
  case round =>
    clear H'
    obtain ⟨x3_1, x8_1, rfl, rfl, HA, HK1, ⟨m1, rfl⟩⟩ := hrel
    cases gk with
    | zero => exact absurd HA.out (by simp [spec_LgPath.l0])
    | succ k1 =>
      have H := HA.out
      clear HA
      simp only [spec_LgPath.l0] at H
      by_cases c2 : x8_1 < (l0.length : Int)
      · rw [if_pos c2] at H
        have c2b0 : decide (x8_1 < (l0.length : Int)) = true := decide_eq_true c2
        clear c2
        by_cases c3 : 0 ≤ x8_1
        · rw [if_pos c3] at H
          have c3b0 : decide (0 ≤ x8_1) = true := decide_eq_true c3
          clear c3
          by_cases c4 : x8_1 < (l0.length : Int)
          · rw [if_pos c4] at H
            have c4b0 : decide (x8_1 < (l0.length : Int)) = true := decide_eq_true c4
            clear c4
            by_cases c5 : x8_1 > 0
            · rw [if_pos c5] at H
              have c5b0 : decide (0 < x8_1) = true := decide_eq_true c5
              clear c5
              by_cases c6 : x3_1.size + 2 ≤ 9223372036854775807
              · rw [if_pos c6] at H
                have c6b0 := eq_true c6
                have c6b1 : decide (x3_1.size + 2 ≤ 9223372036854775807) = true := decide_eq_true c6
                try have c6b2 : (9223372036854775807 < x3_1.size + 2) = False := eq_false (Nat.not_lt.2 c6)
                by_cases c7 : (x3_1 ++ (⟨#[58, 58]⟩ : ByteArray)).size + (rdOf ByteArray.empty l0 x8_1).size ≤ 9223372036854775807
                · rw [if_pos c7] at H
                  have c7b0 := eq_true c7
                  have c7b1 : decide ((x3_1 ++ (⟨#[58, 58]⟩ : ByteArray)).size + (rdOf ByteArray.empty l0 x8_1).size ≤ 9223372036854775807) = true := decide_eq_true c7
                  try have c7b2 : (9223372036854775807 < (x3_1 ++ (⟨#[58, 58]⟩ : ByteArray)).size + (rdOf ByteArray.empty l0 x8_1).size) = False := eq_false (Nat.not_lt.2 c7)
                  try have c7b4 : (9223372036854775807 < x3_1.size + 2 + (rdOf ByteArray.empty l0 x8_1).size) = False := eq_false (by have h_ := c7; (repeat rw [ByteArray.size_append] at h_); exact Nat.not_lt.2 h_)
                  have H' := Aside0.mk H
                  clear H
                  have p168 : 0 ≤ (x8_1 : Int) := of_decide_eq_true (by first | (with_reducible assumption) | assumption)
                  have q168 : x8_1 < (l0.length : Int) := of_decide_eq_true (by first | (with_reducible assumption) | assumption)
                  obtain ⟨ad168, e168, hx168_0⟩ := Kd.at_string HR0.out x8_1 p168 q168
                  cases e168
                  replace p168 := eq_true p168
                  replace q168 := eq_true q168
                  go_wp2
                  go_roundg k1
                  case measure => have := HK1.out; omega
                  case rel => exact ⟨((x3_1 ++ (⟨#[58, 58]⟩ : ByteArray)) ++ (rdOf ByteArray.empty l0 x8_1)), (wrap64 (x8_1 + 1)), (by first | rfl | (simp; done) | (simp [*]; done)), (by first | rfl | (simp; done) | (simp [*]; done)), H', ⟨by have := HK1.out; omega⟩, by repeat (first | exact Drawn0.refl _ | apply Drawn0.step)⟩
                · rw [if_neg c7] at H
                  exact absurd H (by simp)
              · rw [if_neg c6] at H
                exact absurd H (by simp)
            · rw [if_neg c5] at H
              have c5b0 : decide (0 < x8_1) = false := decide_eq_false c5
              clear c5
              by_cases c8 : x3_1.size + (rdOf ByteArray.empty l0 x8_1).size ≤ 9223372036854775807
              · rw [if_pos c8] at H
                have c8b0 := eq_true c8
                have c8b1 : decide (x3_1.size + (rdOf ByteArray.empty l0 x8_1).size ≤ 9223372036854775807) = true := decide_eq_true c8
                try have c8b2 : (9223372036854775807 < x3_1.size + (rdOf ByteArray.empty l0 x8_1).size) = False := eq_false (Nat.not_lt.2 c8)
                have H' := Aside0.mk H
                clear H
                have p168 : 0 ≤ (x8_1 : Int) := of_decide_eq_true (by first | (with_reducible assumption) | assumption)
                have q168 : x8_1 < (l0.length : Int) := of_decide_eq_true (by first | (with_reducible assumption) | assumption)
                obtain ⟨ad168, e168, hx168_0⟩ := Kd.at_string HR0.out x8_1 p168 q168
                cases e168
                replace p168 := eq_true p168
                replace q168 := eq_true q168
                go_wp2
                go_roundg k1
                case measure => have := HK1.out; omega
                case rel => exact ⟨(x3_1 ++ (rdOf ByteArray.empty l0 x8_1)), (wrap64 (x8_1 + 1)), (by first | rfl | (simp; done) | (simp [*]; done)), (by first | rfl | (simp; done) | (simp [*]; done)), H', ⟨by have := HK1.out; omega⟩, by repeat (first | exact Drawn0.refl _ | apply Drawn0.step)⟩
              · rw [if_neg c8] at H
                exact absurd H (by simp)
          · rw [if_neg c4] at H
            exact absurd H (by simp)
        · rw [if_neg c3] at H
          exact absurd H (by simp)
      · rw [if_neg c2] at H
        have c2b0 : decide (x8_1 < (l0.length : Int)) = false := decide_eq_false c2
        clear c2
        obtain rfl := Option.some.inj H
        go_wp2
        go_ret
        exact ⟨by first | rfl | (simp; done) | (simp [*]; done), by repeat (first | exact Drawn0.refl _ | apply Drawn0.step)⟩

/-! ### spec_LgSymbol: function 38 -/
def spec_LgSymbol.l0 : Nat → ByteArray → ByteArray → List ByteArray → Int → Int → Option (ByteArray)
  | 0, _, _, _, _, _ => none
  | k + 1, x1, x5, x8, x9, x10 => if x10 < x9 then (if 0 ≤ x10 then (if x10 < (x8.length : Int) then ((strconv_Itoa.f ((rdOf ByteArray.empty x8 x10).size : Int)).bind fun t170 => (if t170.size + (rdOf ByteArray.empty x8 x10).size ≤ 9223372036854775807 then (if x5.size + (t170 ++ (rdOf ByteArray.empty x8 x10)).size ≤ 9223372036854775807 then (spec_LgSymbol.l0 k x1 (x5 ++ (t170 ++ (rdOf ByteArray.empty x8 x10))) x8 x9 (wrap64 (x10 + 1))) else (none)) else (none))) else (none)) else (none)) else (if x5.size + 3 ≤ 9223372036854775807 then (if (x5 ++ (⟨#[49, 55, 104]⟩ : ByteArray)).size + x1.size ≤ 9223372036854775807 then (if ((x5 ++ (⟨#[49, 55, 104]⟩ : ByteArray)) ++ x1).size + 1 ≤ 9223372036854775807 then (some (((x5 ++ (⟨#[49, 55, 104]⟩ : ByteArray)) ++ x1) ++ (⟨#[69]⟩ : ByteArray))) else (none)) else (none)) else (none))
def spec_LgSymbol.f (k : Nat) (l0 : List ByteArray) (a1 : ByteArray) : Option (ByteArray) := spec_LgSymbol.l0 k a1 (⟨#[95, 90, 78]⟩ : ByteArray) l0 (l0.length : Int) 0
theorem spec_LgSymbol.mono_l : ∀ k, (∀ y0 y1 y2 y3 y4, LeO (spec_LgSymbol.l0 k y0 y1 y2 y3 y4) (spec_LgSymbol.l0 (k + 1) y0 y1 y2 y3 y4))
  | 0 => fun _ _ _ _ _ r h => by simp [spec_LgSymbol.l0] at h
  | k + 1 => by
    have ih0 := spec_LgSymbol.mono_l k
    · intro y0 y1 y2 y3 y4
      unfold spec_LgSymbol.l0
      repeat' first
      | (with_reducible exact ih0 _ _ _ _ _)
      | (with_reducible exact LeO.refl _)
      | (with_reducible exact LeO.none _)
      | (with_reducible refine LeO.ite ?_ ?_)
      | (with_reducible refine LeO.bind ?_ (fun _ => ?_))
      | exact ih0 _ _ _ _ _
      | exact LeO.none _
      | refine LeO.ite ?_ ?_
      | refine LeO.bind ?_ (fun _ => ?_)
theorem spec_LgSymbol.mono : ∀ a0 a1 k, LeO (spec_LgSymbol.f k a0 a1) (spec_LgSymbol.f (k + 1) a0 a1) := by
  intro a0 a1 k
  have ih0 := spec_LgSymbol.mono_l k
  unfold spec_LgSymbol.f
  repeat' first
      | (with_reducible exact ih0 _ _ _ _ _)
      | (with_reducible exact LeO.refl _)
      | (with_reducible exact LeO.none _)
      | (with_reducible refine LeO.ite ?_ ?_)
      | (with_reducible refine LeO.bind ?_ (fun _ => ?_))
      | exact ih0 _ _ _ _ _
      | exact LeO.none _
      | refine LeO.ite ?_ ?_
      | refine LeO.bind ?_ (fun _ => ?_)
set_option maxHeartbeats 8000000 in
set_option maxRecDepth 100000 in
theorem spec_LgSymbol.calls (k : Nat) (A0 : Option Addr) (c0 : Nat) (l0 : List ByteArray) (a1 : ByteArray) (r : ByteArray) (w : World) (hr0 : Kd.C Kd.string w A0 l0.length l0) (hc0 : l0.length ≤ c0) (hT_ : StrIs w) (h : spec_LgSymbol.f k l0 a1 = some r) :
    Calls Tryd.prog 38 #[.slice A0 l0.length c0, .string a1] w fun e w' => e = .returned (.string r) ∧ Below w.heap.size w w' := by
  have HR0 := Aside0.mk hr0
  have HC0 := Aside0.mk hc0
  clear hr0 hc0
  have HB := Aside0.mk (Below.refl w.heap.size w)
  have H : (spec_LgSymbol.l0 k a1 (⟨#[95, 90, 78]⟩ : ByteArray) l0 (l0.length : Int) 0) = some r := h
  clear h
  have H' := Aside0.mk H
  clear H
  go_enter Tryd.func38, Tryd.ntmps38
  go_wp2
  go_loopg [5, 10] k (fun kq v5 v10 w' => ∃ (x5_1 : ByteArray) (x10_1 : Int), v5 = .string x5_1 ∧ v10 = .int .i64 x10_1 ∧ Aside0 (spec_LgSymbol.l0 kq a1 x5_1 l0 (l0.length : Int) x10_1 = some r) ∧ Aside0 (kq ≤ k) ∧ Aside0 (Below w.heap.size w w'))
  case atStart => exact ⟨((⟨#[95, 90, 78]⟩ : ByteArray)), (0), (by first | rfl | (simp; done) | (simp [*]; done)), (by first | rfl | (simp; done) | (simp [*]; done)), H', ⟨Nat.le_refl _⟩, ⟨by repeat (first | (with_reducible first | exact HB.out | apply below_alloc | apply pw_below_drewN | apply below_drew1) | exact HB.out)⟩⟩
  case round =>
    clear H'
    try clear p2
    obtain ⟨x5_1, x10_1, rfl, rfl, HA, HK1, HB⟩ := hrel
    cases gk with
    | zero => exact absurd HA.out (by simp [spec_LgSymbol.l0])
    | succ k1 =>
      have H := HA.out
      clear HA
      simp only [spec_LgSymbol.l0] at H
      by_cases c3 : x10_1 < (l0.length : Int)
      · rw [if_pos c3] at H
        have c3b0 : decide (x10_1 < (l0.length : Int)) = true := decide_eq_true c3
        clear c3
        by_cases c4 : 0 ≤ x10_1
        · rw [if_pos c4] at H
          have c4b0 : decide (0 ≤ x10_1) = true := decide_eq_true c4
          clear c4
          by_cases c5 : x10_1 < (l0.length : Int)
          · rw [if_pos c5] at H
            have c5b0 : decide (x10_1 < (l0.length : Int)) = true := decide_eq_true c5
            clear c5
            replace H := Option.bind_eq_some_iff.mp H
            obtain ⟨t170, A60, H⟩ := H
            replace H : (if t170.size + (rdOf ByteArray.empty l0 x10_1).size ≤ 9223372036854775807 then (if x5_1.size + (t170 ++ (rdOf ByteArray.empty l0 x10_1)).size ≤ 9223372036854775807 then (spec_LgSymbol.l0 k1 a1 (x5_1 ++ (t170 ++ (rdOf ByteArray.empty l0 x10_1))) l0 (l0.length : Int) (wrap64 (x10_1 + 1))) else (none)) else (none)) = some r := H
            have A6 := Aside0.mk A60
            clear A60
            by_cases c7 : t170.size + (rdOf ByteArray.empty l0 x10_1).size ≤ 9223372036854775807
            · rw [if_pos c7] at H
              have c7b0 := eq_true c7
              have c7b1 : decide (t170.size + (rdOf ByteArray.empty l0 x10_1).size ≤ 9223372036854775807) = true := decide_eq_true c7
              try have c7b2 : (9223372036854775807 < t170.size + (rdOf ByteArray.empty l0 x10_1).size) = False := eq_false (Nat.not_lt.2 c7)
              by_cases c8 : x5_1.size + (t170 ++ (rdOf ByteArray.empty l0 x10_1)).size ≤ 9223372036854775807
              · rw [if_pos c8] at H
                have c8b0 := eq_true c8
                have c8b1 : decide (x5_1.size + (t170 ++ (rdOf ByteArray.empty l0 x10_1)).size ≤ 9223372036854775807) = true := decide_eq_true c8
                try have c8b2 : (9223372036854775807 < x5_1.size + (t170 ++ (rdOf ByteArray.empty l0 x10_1)).size) = False := eq_false (Nat.not_lt.2 c8)
                try have c8b4 : (9223372036854775807 < x5_1.size + (t170.size + (rdOf ByteArray.empty l0 x10_1).size)) = False := eq_false (by have h_ := c8; (repeat rw [ByteArray.size_append] at h_); exact Nat.not_lt.2 h_)
                have H' := Aside0.mk H
                clear H
                have p169 : 0 ≤ (x10_1 : Int) := of_decide_eq_true (by first | (with_reducible assumption) | assumption)
                have q169 : x10_1 < (l0.length : Int) := of_decide_eq_true (by first | (with_reducible assumption) | assumption)
                obtain ⟨ad169, e169, hx169_0⟩ := Kd.at_string HR0.out x10_1 p169 q169
                cases e169
                replace hx169_0 := (HB.out.cell (World.block_lt_of_cell? w _ hx169_0)).trans hx169_0
                replace p169 := eq_true p169
                replace q169 := eq_true q169
                go_wp2_with (first | (go_at_call 32; refine (idCut_at _ _ _ _ _ _ (by assumption) (by assumption)).mono ?_; rintro e w_ ⟨rfl, rfl⟩) | ((with_reducible refine gate_callee (f := 50) rfl ?_); refine goesL_ (some 17) rfl rfl Tryd.func50 (by kernel_rfl) rfl #[.int .i64 ((rdOf ByteArray.empty l0 x10_1).size : Int)] rfl (by (try simp only [List.map_toArray, List.map_cons, List.map_nil]); first | done | rfl | (simp only [List.length_drop, List.length_take]; rfl)) ?_; (with_reducible refine (strconv_Itoa.calls ((rdOf ByteArray.empty l0 x10_1).size : Int) t170 _ (show StrIs _ from ?side1) A6.out).mono ?_); (case side1 => exact Stays.below hT_ (by first | (repeat (first | (with_reducible first | exact HB.out | apply below_alloc | apply pw_below_drewN | apply below_drew1) | exact HB.out)) | (repeat (first | exact Below.refl _ _ | apply below_drew1 | apply pw_below_drewN)))); rintro e w9 ⟨rfl, hb⟩; refine ⟨_, rfl, ?_⟩; have n0_ := Aside0.mk (below_step (by repeat (first | (with_reducible first | exact HB.out | apply below_alloc | apply pw_below_drewN | apply below_drew1) | exact HB.out)) hb); clear HB; have HB := n0_; clear n0_; (try clear hb); (try clear hb2); (try clear hk); (try clear hi)))
                go_roundg k1
                case measure => have := HK1.out; omega
                case rel => exact ⟨(x5_1 ++ (t170 ++ (rdOf ByteArray.empty l0 x10_1))), (wrap64 (x10_1 + 1)), (by first | rfl | (simp; done) | (simp [*]; done)), (by first | rfl | (simp; done) | (simp [*]; done)), H', ⟨by have := HK1.out; omega⟩, ⟨by repeat (first | (with_reducible first | exact HB.out | apply below_alloc | apply pw_below_drewN | apply below_drew1) | exact HB.out)⟩⟩
              · rw [if_neg c8] at H
                exact absurd H (by simp)
            · rw [if_neg c7] at H
              exact absurd H (by simp)
          · rw [if_neg c5] at H
            exact absurd H (by simp)
        · rw [if_neg c4] at H
          exact absurd H (by simp)
      · rw [if_neg c3] at H
        have c3b0 : decide (x10_1 < (l0.length : Int)) = false := decide_eq_false c3
        clear c3
        by_cases c10 : x5_1.size + 3 ≤ 9223372036854775807
        · rw [if_pos c10] at H
          have c10b0 := eq_true c10
          have c10b1 : decide (x5_1.size + 3 ≤ 9223372036854775807) = true := decide_eq_true c10
          try have c10b2 : (9223372036854775807 < x5_1.size + 3) = False := eq_false (Nat.not_lt.2 c10)
          by_cases c11 : (x5_1 ++ (⟨#[49, 55, 104]⟩ : ByteArray)).size + a1.size ≤ 9223372036854775807
          · rw [if_pos c11] at H
            have c11b0 := eq_true c11
            have c11b1 : decide ((x5_1 ++ (⟨#[49, 55, 104]⟩ : ByteArray)).size + a1.size ≤ 9223372036854775807) = true := decide_eq_true c11
            try have c11b2 : (9223372036854775807 < (x5_1 ++ (⟨#[49, 55, 104]⟩ : ByteArray)).size + a1.size) = False := eq_false (Nat.not_lt.2 c11)
            try have c11b4 : (9223372036854775807 < x5_1.size + 3 + a1.size) = False := eq_false (by have h_ := c11; (repeat rw [ByteArray.size_append] at h_); exact Nat.not_lt.2 h_)
            by_cases c12 : ((x5_1 ++ (⟨#[49, 55, 104]⟩ : ByteArray)) ++ a1).size + 1 ≤ 9223372036854775807
            · rw [if_pos c12] at H
              have c12b0 := eq_true c12
              have c12b1 : decide (((x5_1 ++ (⟨#[49, 55, 104]⟩ : ByteArray)) ++ a1).size + 1 ≤ 9223372036854775807) = true := decide_eq_true c12
              try have c12b2 : (9223372036854775807 < ((x5_1 ++ (⟨#[49, 55, 104]⟩ : ByteArray)) ++ a1).size + 1) = False := eq_false (Nat.not_lt.2 c12)
              try have c12b4 : (9223372036854775807 < x5_1.size + 3 + a1.size + 1) = False := eq_false (by have h_ := c12; (repeat rw [ByteArray.size_append] at h_); exact Nat.not_lt.2 h_)
              obtain rfl := Option.some.inj H
              go_wp2
              go_ret
              exact ⟨by first | rfl | (simp [errW_none, errW_some] <;> rfl) | (simp [*, errW_none, errW_some] <;> rfl), by repeat (first | (with_reducible first | exact HB.out | apply below_alloc | apply pw_below_drewN | apply below_drew1) | exact HB.out)⟩
            · rw [if_neg c12] at H
              exact absurd H (by simp)
          · rw [if_neg c11] at H
            exact absurd H (by simp)
        · rw [if_neg c10] at H
          exact absurd H (by simp)

end Go.Proofs.YtpmlnhddkbgefaaDoor.PFnLegacyOptions
