/- Written by a program of this session (wip/tools/myprint.py) with the kit's print: contracts of the functions that one statement reaches; functions that are proved by hand are taken as printed. Conditions: none. -/
import Derived.Test.YtpmlnhddkbgefaaDoorPFnLegacyFirstx0
namespace Go.Proofs.YtpmlnhddkbgefaaDoor.PFnLegacyFirst
open Go.RowKit Go.Proofs.YtpmlnhddkbgefaaDoorW.PrintWords Go.Proofs.YtpmlnhddkbgefaaDoorW.PrintLast Go.Proofs.YtpmlnhddkbgefaaDoorW.PrintMore
attribute [local go_sem] max2_int min2_int max_two min_two max_three min_three max_four min_four   -- for this text's walks alone
set_option linter.unusedVariables false
set_option linter.unusedSimpArgs false

/-! ### laws_lgHash: function 28 -/
def laws_lgHash.f (l0 : List Int) : Option (ByteArray × Bool) := (spec_LgHash.f l0).bind fun bt101 => (some (bt101.1, decide (bt101.2 ≥ 8)))
set_option maxHeartbeats 8000000 in
set_option maxRecDepth 100000 in
theorem laws_lgHash.calls (A0 : Option Addr) (c0 : Nat) (l0 : List Int) (r1 : ByteArray) (r2 : Bool) (w : World) (hr0 : Kd.C (Kd.int .u8) w A0 l0.length l0) (hc0 : l0.length ≤ c0) (h : laws_lgHash.f l0 = some (r1, r2)) :
    Calls Tryd.prog 28 #[.slice A0 l0.length c0] w fun e w' => e = .returned (.tuple #[.string r1, .bool r2]) ∧ Below w.heap.size w w' := by
  have HR0 := Aside0.mk hr0
  have HC0 := Aside0.mk hc0
  clear hr0 hc0
  have HB := Aside0.mk (Below.refl w.heap.size w)
  have H : ((spec_LgHash.f l0).bind fun bt101 => (some (bt101.1, decide (bt101.2 ≥ 8)))) = some (r1, r2) := h
  clear h
  replace H := Option.bind_eq_some_iff.mp H
  obtain ⟨⟨t101, t102⟩, A20, H⟩ := H
  replace H : (some (t101, decide (t102 ≥ 8))) = some (r1, r2) := H
  have A2 := Aside0.mk A20
  clear A20
  simp only [Option.some.injEq, Prod.mk.injEq] at H
  obtain ⟨rfl, rfl⟩ := H
  go_enter Tryd.func28, Tryd.ntmps28
  go_wp2_with (first | (go_at_call 32; refine (idCut_at _ _ _ _ _ _ (by assumption) (by assumption)).mono ?_; rintro e w_ ⟨rfl, rfl⟩) | ((with_reducible refine gate_callee (f := 47) rfl ?_); refine goesL_ (some 8) rfl rfl Tryd.func47 (by kernel_rfl) rfl #[.slice A0 l0.length c0] rfl (by (try simp only [List.map_toArray, List.map_cons, List.map_nil]); first | done | rfl | (simp only [List.length_drop, List.length_take]; rfl)) ?_; (with_reducible refine (spec_LgHash.calls _ _ l0 t101 t102 _ ?side1 ?side2 A2.out).mono ?_); (case side1 => repeat (first | exact HR0.out | (with_reducible refine Kd.C_alloc ?_ _) | (with_reducible refine Kd.C_drewN ?_ _) | (with_reducible refine Kd.C_drew ?_))); (case side2 => exact HC0.out); rintro e w3 ⟨rfl, hb⟩; refine ⟨_, rfl, ?_⟩; have n0_ := Aside0.mk (below_step (by repeat (first | (with_reducible first | exact HB.out | apply below_alloc | apply pw_below_drewN | apply below_drew1) | exact HB.out)) hb); clear HB; have HB := n0_; clear n0_; (try clear hb); (try clear hb2); (try clear hk); (try clear hi)))
  go_ret2
  exact ⟨by first | rfl | (simp [errW_none, errW_some] <;> rfl) | (simp [*, errW_none, errW_some] <;> rfl), by repeat (first | (with_reducible first | exact HB.out | apply below_alloc | apply pw_below_drewN | apply below_drew1) | exact HB.out)⟩

/-! ### spec_LgSymbol: function 38 -/
def spec_LgSymbol.l0 : Nat → ByteArray → ByteArray → List ByteArray → Int → Int → Option (ByteArray)
  | 0, _, _, _, _, _ => none
  | k + 1, x1, x5, x8, x9, x10 => if x10 < x9 then (if 0 ≤ x10 then (if x10 < (x8.length : Int) then ((strconv_Itoa.f ((rdOf ByteArray.empty x8 x10).size : Int)).bind fun t104 => (if t104.size + (rdOf ByteArray.empty x8 x10).size ≤ 9223372036854775807 then (if x5.size + (t104 ++ (rdOf ByteArray.empty x8 x10)).size ≤ 9223372036854775807 then (spec_LgSymbol.l0 k x1 (x5 ++ (t104 ++ (rdOf ByteArray.empty x8 x10))) x8 x9 (wrap64 (x10 + 1))) else (none)) else (none))) else (none)) else (none)) else (if x5.size + 3 ≤ 9223372036854775807 then (if (x5 ++ (⟨#[49, 55, 104]⟩ : ByteArray)).size + x1.size ≤ 9223372036854775807 then (if ((x5 ++ (⟨#[49, 55, 104]⟩ : ByteArray)) ++ x1).size + 1 ≤ 9223372036854775807 then (some (((x5 ++ (⟨#[49, 55, 104]⟩ : ByteArray)) ++ x1) ++ (⟨#[69]⟩ : ByteArray))) else (none)) else (none)) else (none))
def spec_LgSymbol.f (k : Nat) (l0 : List ByteArray) (a1 : ByteArray) : Option (ByteArray) := spec_LgSymbol.l0 k a1 (⟨#[95, 90, 78]⟩ : ByteArray) l0 (l0.length : Int) 0
theorem spec_LgSymbol.mono_l : ∀ k, (∀ y0 y1 y2 y3 y4, LeO (spec_LgSymbol.l0 k y0 y1 y2 y3 y4) (spec_LgSymbol.l0 (k + 1) y0 y1 y2 y3 y4))
  | 0 => fun _ _ _ _ _ r h => by simp [spec_LgSymbol.l0] at h
  | k + 1 => by
    have ih0 := spec_LgSymbol.mono_l k
    · intro y0 y1 y2 y3 y4
      unfold spec_LgSymbol.l0
      repeat' first
      | (with_reducible exact ih0 _ _ _ _ _)
      | (with_reducible exact LeO.refl _)
      | (with_reducible exact LeO.none _)
      | (with_reducible refine LeO.ite ?_ ?_)
      | (with_reducible refine LeO.bind ?_ (fun _ => ?_))
      | exact ih0 _ _ _ _ _
      | exact LeO.none _
      | refine LeO.ite ?_ ?_
      | refine LeO.bind ?_ (fun _ => ?_)
theorem spec_LgSymbol.mono : ∀ a0 a1 k, LeO (spec_LgSymbol.f k a0 a1) (spec_LgSymbol.f (k + 1) a0 a1) := by
  intro a0 a1 k
  have ih0 := spec_LgSymbol.mono_l k
  unfold spec_LgSymbol.f
  repeat' first
      | (with_reducible exact ih0 _ _ _ _ _)
      | (with_reducible exact LeO.refl _)
      | (with_reducible exact LeO.none _)
      | (with_reducible refine LeO.ite ?_ ?_)
      | (with_reducible refine LeO.bind ?_ (fun _ => ?_))
      | exact ih0 _ _ _ _ _
      | exact LeO.none _
      | refine LeO.ite ?_ ?_
      | refine LeO.bind ?_ (fun _ => ?_)
set_option maxHeartbeats 8000000 in
set_option maxRecDepth 100000 in
theorem spec_LgSymbol.calls (k : Nat) (A0 : Option Addr) (c0 : Nat) (l0 : List ByteArray) (a1 : ByteArray) (r : ByteArray) (w : World) (hr0 : Kd.C Kd.string w A0 l0.length l0) (hc0 : l0.length ≤ c0) (hT_ : StrIs w) (h : spec_LgSymbol.f k l0 a1 = some r) :
    Calls Tryd.prog 38 #[.slice A0 l0.length c0, .string a1] w fun e w' => e = .returned (.string r) ∧ Below w.heap.size w w' := by
  have HR0 := Aside0.mk hr0
  have HC0 := Aside0.mk hc0
  clear hr0 hc0
  have HB := Aside0.mk (Below.refl w.heap.size w)
  have H : (spec_LgSymbol.l0 k a1 (⟨#[95, 90, 78]⟩ : ByteArray) l0 (l0.length : Int) 0) = some r := h
  clear h
  have H' := Aside0.mk H
  clear H
  go_enter Tryd.func38, Tryd.ntmps38
  go_wp2
  go_loopg [5, 10] k (fun kq v5 v10 w' => ∃ (x5_1 : ByteArray) (x10_1 : Int), v5 = .string x5_1 ∧ v10 = .int .i64 x10_1 ∧ Aside0 (spec_LgSymbol.l0 kq a1 x5_1 l0 (l0.length : Int) x10_1 = some r) ∧ Aside0 (kq ≤ k) ∧ Aside0 (Below w.heap.size w w'))
  case atStart => exact ⟨((⟨#[95, 90, 78]⟩ : ByteArray)), (0), (by first | rfl | (simp; done) | (simp [*]; done)), (by first | rfl | (simp; done) | (simp [*]; done)), H', ⟨Nat.le_refl _⟩, ⟨by repeat (first | (with_reducible first | exact HB.out | apply below_alloc | apply pw_below_drewN | apply below_drew1) | exact HB.out)⟩⟩
  case round =>
    clear H'
    try clear p2
    obtain ⟨x5_1, x10_1, rfl, rfl, HA, HK1, HB⟩ := hrel
    cases gk with
    | zero => exact absurd HA.out (by simp [spec_LgSymbol.l0])
    | succ k1 =>
      have H := HA.out
      clear HA
      simp only [spec_LgSymbol.l0] at H
      by_cases c3 : x10_1 < (l0.length : Int)
      · rw [if_pos c3] at H
        have c3b0 : decide (x10_1 < (l0.length : Int)) = true := decide_eq_true c3
        clear c3
        by_cases c4 : 0 ≤ x10_1
        · rw [if_pos c4] at H
          have c4b0 : decide (0 ≤ x10_1) = true := decide_eq_true c4
          clear c4
          by_cases c5 : x10_1 < (l0.length : Int)
          · rw [if_pos c5] at H
            have c5b0 : decide (x10_1 < (l0.length : Int)) = true := decide_eq_true c5
            clear c5
            replace H := Option.bind_eq_some_iff.mp H
            obtain ⟨t104, A60, H⟩ := H
            replace H : (if t104.size + (rdOf ByteArray.empty l0 x10_1).size ≤ 9223372036854775807 then (if x5_1.size + (t104 ++ (rdOf ByteArray.empty l0 x10_1)).size ≤ 9223372036854775807 then (spec_LgSymbol.l0 k1 a1 (x5_1 ++ (t104 ++ (rdOf ByteArray.empty l0 x10_1))) l0 (l0.length : Int) (wrap64 (x10_1 + 1))) else (none)) else (none)) = some r := H
            have A6 := Aside0.mk A60
            clear A60
            by_cases c7 : t104.size + (rdOf ByteArray.empty l0 x10_1).size ≤ 9223372036854775807
            · rw [if_pos c7] at H
              have c7b0 := eq_true c7
              have c7b1 : decide (t104.size + (rdOf ByteArray.empty l0 x10_1).size ≤ 9223372036854775807) = true := decide_eq_true c7
              try have c7b2 : (9223372036854775807 < t104.size + (rdOf ByteArray.empty l0 x10_1).size) = False := eq_false (Nat.not_lt.2 c7)
              by_cases c8 : x5_1.size + (t104 ++ (rdOf ByteArray.empty l0 x10_1)).size ≤ 9223372036854775807
              · rw [if_pos c8] at H
                have c8b0 := eq_true c8
                have c8b1 : decide (x5_1.size + (t104 ++ (rdOf ByteArray.empty l0 x10_1)).size ≤ 9223372036854775807) = true := decide_eq_true c8
                try have c8b2 : (9223372036854775807 < x5_1.size + (t104 ++ (rdOf ByteArray.empty l0 x10_1)).size) = False := eq_false (Nat.not_lt.2 c8)
                try have c8b4 : (9223372036854775807 < x5_1.size + (t104.size + (rdOf ByteArray.empty l0 x10_1).size)) = False := eq_false (by have h_ := c8; (repeat rw [ByteArray.size_append] at h_); exact Nat.not_lt.2 h_)
                have H' := Aside0.mk H
                clear H
                have p103 : 0 ≤ (x10_1 : Int) := of_decide_eq_true (by first | (with_reducible assumption) | assumption)
                have q103 : x10_1 < (l0.length : Int) := of_decide_eq_true (by first | (with_reducible assumption) | assumption)
                obtain ⟨ad103, e103, hx103_0⟩ := Kd.at_string HR0.out x10_1 p103 q103
                cases e103
                replace hx103_0 := (HB.out.cell (World.block_lt_of_cell? w _ hx103_0)).trans hx103_0
                replace p103 := eq_true p103
                replace q103 := eq_true q103
                go_wp2_with (first | (go_at_call 32; refine (idCut_at _ _ _ _ _ _ (by assumption) (by assumption)).mono ?_; rintro e w_ ⟨rfl, rfl⟩) | ((with_reducible refine gate_callee (f := 50) rfl ?_); refine goesL_ (some 17) rfl rfl Tryd.func50 (by kernel_rfl) rfl #[.int .i64 ((rdOf ByteArray.empty l0 x10_1).size : Int)] rfl (by (try simp only [List.map_toArray, List.map_cons, List.map_nil]); first | done | rfl | (simp only [List.length_drop, List.length_take]; rfl)) ?_; (with_reducible refine (strconv_Itoa.calls ((rdOf ByteArray.empty l0 x10_1).size : Int) t104 _ (show StrIs _ from ?side1) A6.out).mono ?_); (case side1 => exact Stays.below hT_ (by first | (repeat (first | (with_reducible first | exact HB.out | apply below_alloc | apply pw_below_drewN | apply below_drew1) | exact HB.out)) | (repeat (first | exact Below.refl _ _ | apply below_drew1 | apply pw_below_drewN)))); rintro e w9 ⟨rfl, hb⟩; refine ⟨_, rfl, ?_⟩; have n0_ := Aside0.mk (below_step (by repeat (first | (with_reducible first | exact HB.out | apply below_alloc | apply pw_below_drewN | apply below_drew1) | exact HB.out)) hb); clear HB; have HB := n0_; clear n0_; (try clear hb); (try clear hb2); (try clear hk); (try clear hi)))
                go_roundg k1
                case measure => have := HK1.out; omega
                case rel => exact ⟨(x5_1 ++ (t104 ++ (rdOf ByteArray.empty l0 x10_1))), (wrap64 (x10_1 + 1)), (by first | rfl | (simp; done) | (simp [*]; done)), (by first | rfl | (simp; done) | (simp [*]; done)), H', ⟨by have := HK1.out; omega⟩, ⟨by repeat (first | (with_reducible first | exact HB.out | apply below_alloc | apply pw_below_drewN | apply below_drew1) | exact HB.out)⟩⟩
              · rw [if_neg c8] at H
                exact absurd H (by simp)
            · rw [if_neg c7] at H
              exact absurd H (by simp)
          · rw [if_neg c5] at H
            exact absurd H (by simp)
        · rw [if_neg c4] at H
          exact absurd H (by simp)
      · rw [if_neg c3] at H
        have c3b0 : decide (x10_1 < (l0.length : Int)) = false := decide_eq_false c3
        clear c3
        by_cases c10 : x5_1.size + 3 ≤ 9223372036854775807
        · rw [if_pos c10] at H
          have c10b0 := eq_true c10
          have c10b1 : decide (x5_1.size + 3 ≤ 9223372036854775807) = true := decide_eq_true c10
          try have c10b2 : (9223372036854775807 < x5_1.size + 3) = False := eq_false (Nat.not_lt.2 c10)
          by_cases c11 : (x5_1 ++ (⟨#[49, 55, 104]⟩ : ByteArray)).size + a1.size ≤ 9223372036854775807
          · rw [if_pos c11] at H
            have c11b0 := eq_true c11
            have c11b1 : decide ((x5_1 ++ (⟨#[49, 55, 104]⟩ : ByteArray)).size + a1.size ≤ 9223372036854775807) = true := decide_eq_true c11
            try have c11b2 : (9223372036854775807 < (x5_1 ++ (⟨#[49, 55, 104]⟩ : ByteArray)).size + a1.size) = False := eq_false (Nat.not_lt.2 c11)
            try have c11b4 : (9223372036854775807 < x5_1.size + 3 + a1.size) = False := eq_false (by have h_ := c11; (repeat rw [ByteArray.size_append] at h_); exact Nat.not_lt.2 h_)
            by_cases c12 : ((x5_1 ++ (⟨#[49, 55, 104]⟩ : ByteArray)) ++ a1).size + 1 ≤ 9223372036854775807
            · rw [if_pos c12] at H
              have c12b0 := eq_true c12
              have c12b1 : decide (((x5_1 ++ (⟨#[49, 55, 104]⟩ : ByteArray)) ++ a1).size + 1 ≤ 9223372036854775807) = true := decide_eq_true c12
              try have c12b2 : (9223372036854775807 < ((x5_1 ++ (⟨#[49, 55, 104]⟩ : ByteArray)) ++ a1).size + 1) = False := eq_false (Nat.not_lt.2 c12)
              try have c12b4 : (9223372036854775807 < x5_1.size + 3 + a1.size + 1) = False := eq_false (by have h_ := c12; (repeat rw [ByteArray.size_append] at h_); exact Nat.not_lt.2 h_)
              obtain rfl := Option.some.inj H
              go_wp2
              go_ret
              exact ⟨by first | rfl | (simp [errW_none, errW_some] <;> rfl) | (simp [*, errW_none, errW_some] <;> rfl), by repeat (first | (with_reducible first | exact HB.out | apply below_alloc | apply pw_below_drewN | apply below_drew1) | exact HB.out)⟩
            · rw [if_neg c12] at H
              exact absurd H (by simp)
          · rw [if_neg c11] at H
            exact absurd H (by simp)
        · rw [if_neg c10] at H
          exact absurd H (by simp)

/-! ### laws_lgTold: function 29 -/
def laws_lgTold.f (k : Nat) (l0 : List ByteArray) (a1 : ByteArray) (a2 : ByteArray) : Option (Bool) := (spec_LgSymbol.f k l0 a1).bind fun t105 => ((impl_Old.f t105 false false false false false false false 0).bind fun bt106 => (if bt106.2 = true then (some (bt106.1.toList == a2.toList)) else (some false)))
theorem laws_lgTold.mono : ∀ a0 a1 a2 k, LeO (laws_lgTold.f k a0 a1 a2) (laws_lgTold.f (k + 1) a0 a1 a2) := by
  intro a0 a1 a2 k
  unfold laws_lgTold.f
  repeat' first
      | (with_reducible exact spec_LgSymbol.mono _ _ _)
      | (with_reducible exact LeO.refl _)
      | (with_reducible exact LeO.none _)
      | (with_reducible refine LeO.ite ?_ ?_)
      | (with_reducible refine LeO.bind ?_ (fun _ => ?_))
      | exact spec_LgSymbol.mono _ _ _
      | exact LeO.none _
      | refine LeO.ite ?_ ?_
      | refine LeO.bind ?_ (fun _ => ?_)
set_option maxHeartbeats 8000000 in
set_option maxRecDepth 100000 in
theorem laws_lgTold.calls (k : Nat) (A0 : Option Addr) (c0 : Nat) (l0 : List ByteArray) (a1 : ByteArray) (a2 : ByteArray) (r : Bool) (w : World) (hr0 : Kd.C Kd.string w A0 l0.length l0) (hc0 : l0.length ≤ c0) (hT_ : StrIs w) (h : laws_lgTold.f k l0 a1 a2 = some r) :
    Calls Tryd.prog 29 #[.slice A0 l0.length c0, .string a1, .string a2] w fun e w' => e = .returned (.bool r) ∧ Below w.heap.size w w' := by
  have hu67 := Tryd.underlying67
  have HR0 := Aside0.mk hr0
  have HC0 := Aside0.mk hc0
  clear hr0 hc0
  have HB := Aside0.mk (Below.refl w.heap.size w)
  have H : ((spec_LgSymbol.f k l0 a1).bind fun t105 => ((impl_Old.f t105 false false false false false false false 0).bind fun bt106 => (if bt106.2 = true then (some (bt106.1.toList == a2.toList)) else (some false)))) = some r := h
  clear h
  replace H := Option.bind_eq_some_iff.mp H
  obtain ⟨t105, A40, H⟩ := H
  replace H : ((impl_Old.f t105 false false false false false false false 0).bind fun bt106 => (if bt106.2 = true then (some (bt106.1.toList == a2.toList)) else (some false))) = some r := H
  have A4 := Aside0.mk A40
  clear A40
  replace H := Option.bind_eq_some_iff.mp H
  obtain ⟨⟨t106, t107⟩, A50, H⟩ := H
  replace H : (if t107 = true then (some (t106.toList == a2.toList)) else (some false)) = some r := H
  have A5 := Aside0.mk A50
  clear A50
  by_cases c6 : t107 = true
  · subst c6
    have H1 : (some (t106.toList == a2.toList)) = some r := by rw [if_pos rfl] at H; exact H
    clear H
    have H := H1
    clear H1
    obtain rfl := Option.some.inj H
    go_enter Tryd.func29, Tryd.ntmps29
    go_wp2_with (first | (go_at_call 32; refine (idCut_at _ _ _ _ _ _ (by assumption) (by assumption)).mono ?_; rintro e w_ ⟨rfl, rfl⟩) | ((with_reducible refine gate_callee (f := 38) rfl ?_); refine goesL_ (some 12) rfl rfl Tryd.func38 (by kernel_rfl) rfl #[.slice A0 l0.length c0, .string a1] rfl (by (try simp only [List.map_toArray, List.map_cons, List.map_nil]); first | done | rfl | (simp only [List.length_drop, List.length_take]; rfl)) ?_; (with_reducible refine (spec_LgSymbol.calls k _ _ l0 a1 t105 _ ?side1 ?side2 (show StrIs _ from ?side3) A4.out).mono ?_); (case side1 => repeat (first | exact HR0.out | (with_reducible refine Kd.C_alloc ?_ _) | (with_reducible refine Kd.C_drewN ?_ _) | (with_reducible refine Kd.C_drew ?_))); (case side2 => exact HC0.out); (case side3 => exact Stays.below hT_ (by first | (repeat (first | (with_reducible first | exact HB.out | apply below_alloc | apply pw_below_drewN | apply below_drew1) | exact HB.out)) | (repeat (first | exact Below.refl _ _ | apply below_drew1 | apply pw_below_drewN)))); rintro e w7 ⟨rfl, hb⟩; refine ⟨_, rfl, ?_⟩; have n0_ := Aside0.mk (below_step (by repeat (first | (with_reducible first | exact HB.out | apply below_alloc | apply pw_below_drewN | apply below_drew1) | exact HB.out)) hb); clear HB; have HB := n0_; clear n0_; (try clear hb); (try clear hb2); (try clear hk); (try clear hi)) | ((with_reducible refine gate_callee (f := 37) rfl ?_); refine goesL_ (some 14) rfl rfl Tryd.func37 (by kernel_rfl) rfl #[.string t105, .agg #[.bool false, .bool false, .bool false, .bool false, .bool false, .bool false, .bool false, .int .i64 0]] rfl (by (try simp only [List.map_toArray, List.map_cons, List.map_nil]); first | done | rfl | (simp only [List.length_drop, List.length_take]; rfl)) ?_; (with_reducible refine (impl_Old.calls t105 false false false false false false false 0 t106 true _ A5.out).mono ?_); rintro e w8 ⟨rfl, hb⟩; refine ⟨_, rfl, ?_⟩; have n0_ := Aside0.mk (below_step (by repeat (first | (with_reducible first | exact HB.out | apply below_alloc | apply pw_below_drewN | apply below_drew1) | exact HB.out)) hb); clear HB; have HB := n0_; clear n0_; (try clear hb); (try clear hb2); (try clear hk); (try clear hi)))
    go_ret
    exact ⟨by first | rfl | (simp [errW_none, errW_some] <;> rfl) | (simp [*, errW_none, errW_some] <;> rfl), by repeat (first | (with_reducible first | exact HB.out | apply below_alloc | apply pw_below_drewN | apply below_drew1) | exact HB.out)⟩
  · replace c6 := Bool.eq_false_iff.mpr c6
    subst c6
    have H1 : (some false) = some r := by rw [if_neg (show ¬ (false = true) by decide)] at H; exact H
    clear H
    have H := H1
    clear H1
    obtain rfl := Option.some.inj H
    go_enter Tryd.func29, Tryd.ntmps29
    go_wp2_with (first | (go_at_call 32; refine (idCut_at _ _ _ _ _ _ (by assumption) (by assumption)).mono ?_; rintro e w_ ⟨rfl, rfl⟩) | ((with_reducible refine gate_callee (f := 38) rfl ?_); refine goesL_ (some 12) rfl rfl Tryd.func38 (by kernel_rfl) rfl #[.slice A0 l0.length c0, .string a1] rfl (by (try simp only [List.map_toArray, List.map_cons, List.map_nil]); first | done | rfl | (simp only [List.length_drop, List.length_take]; rfl)) ?_; (with_reducible refine (spec_LgSymbol.calls k _ _ l0 a1 t105 _ ?side1 ?side2 (show StrIs _ from ?side3) A4.out).mono ?_); (case side1 => repeat (first | exact HR0.out | (with_reducible refine Kd.C_alloc ?_ _) | (with_reducible refine Kd.C_drewN ?_ _) | (with_reducible refine Kd.C_drew ?_))); (case side2 => exact HC0.out); (case side3 => exact Stays.below hT_ (by first | (repeat (first | (with_reducible first | exact HB.out | apply below_alloc | apply pw_below_drewN | apply below_drew1) | exact HB.out)) | (repeat (first | exact Below.refl _ _ | apply below_drew1 | apply pw_below_drewN)))); rintro e w9 ⟨rfl, hb⟩; refine ⟨_, rfl, ?_⟩; have n0_ := Aside0.mk (below_step (by repeat (first | (with_reducible first | exact HB.out | apply below_alloc | apply pw_below_drewN | apply below_drew1) | exact HB.out)) hb); clear HB; have HB := n0_; clear n0_; (try clear hb); (try clear hb2); (try clear hk); (try clear hi)) | ((with_reducible refine gate_callee (f := 37) rfl ?_); refine goesL_ (some 14) rfl rfl Tryd.func37 (by kernel_rfl) rfl #[.string t105, .agg #[.bool false, .bool false, .bool false, .bool false, .bool false, .bool false, .bool false, .int .i64 0]] rfl (by (try simp only [List.map_toArray, List.map_cons, List.map_nil]); first | done | rfl | (simp only [List.length_drop, List.length_take]; rfl)) ?_; (with_reducible refine (impl_Old.calls t105 false false false false false false false 0 t106 false _ A5.out).mono ?_); rintro e w10 ⟨rfl, hb⟩; refine ⟨_, rfl, ?_⟩; have n0_ := Aside0.mk (below_step (by repeat (first | (with_reducible first | exact HB.out | apply below_alloc | apply pw_below_drewN | apply below_drew1) | exact HB.out)) hb); clear HB; have HB := n0_; clear n0_; (try clear hb); (try clear hb2); (try clear hk); (try clear hi)))
    go_ret
    exact ⟨by first | rfl | (simp [errW_none, errW_some] <;> rfl) | (simp [*, errW_none, errW_some] <;> rfl), by repeat (first | (with_reducible first | exact HB.out | apply below_alloc | apply pw_below_drewN | apply below_drew1) | exact HB.out)⟩

/-! ### spec_AnWord: function 31 -/
def spec_AnWord.l0 : Nat → List Int → List Int → List Int → Int → Int → Option (ByteArray)
  | 0, _, _, _, _, _ => none
  | k + 1, x0, x3, x12, x13, x14 => if x14 < x13 then (if 0 ≤ x14 then (if x14 < (x12.length : Int) then (if 0 ≤ (Int.tmod (wrap64 (rd x12 x14)) 62) then (if (Int.tmod (wrap64 (rd x12 x14)) 62) < 63 then (if x14 < (x3.length : Int) then (spec_AnWord.l0 k x0 (x3.set (x14 : Int).toNat (bt (⟨#[97, 98, 99, 100, 101, 102, 103, 104, 105, 106, 107, 108, 109, 110, 111, 112, 113, 114, 115, 116, 117, 118, 119, 120, 121, 122, 65, 66, 67, 68, 69, 70, 71, 72, 73, 74, 75, 76, 77, 78, 79, 80, 81, 82, 83, 84, 85, 86, 87, 88, 89, 90, 48, 49, 50, 51, 52, 53, 54, 55, 56, 57, 95]⟩ : ByteArray) (Int.tmod (wrap64 (rd x12 x14)) 62))) x12 x13 (wrap64 (x14 + 1))) else (none)) else (none)) else (none)) else (none)) else (none)) else (if 0 < (x0.length : Int) then (if 0 ≤ (Int.tmod (wrap64 (rd x0 0)) 52) then (if (Int.tmod (wrap64 (rd x0 0)) 52) < 63 then (if 0 < (x3.length : Int) then (some (strOfNums (x3.set (0 : Int).toNat (bt (⟨#[97, 98, 99, 100, 101, 102, 103, 104, 105, 106, 107, 108, 109, 110, 111, 112, 113, 114, 115, 116, 117, 118, 119, 120, 121, 122, 65, 66, 67, 68, 69, 70, 71, 72, 73, 74, 75, 76, 77, 78, 79, 80, 81, 82, 83, 84, 85, 86, 87, 88, 89, 90, 48, 49, 50, 51, 52, 53, 54, 55, 56, 57, 95]⟩ : ByteArray) (Int.tmod (wrap64 (rd x0 0)) 52))))) else (none)) else (none)) else (none)) else (none))
def spec_AnWord.f (k : Nat) (l0 : List Int) : Option (ByteArray) := if (l0.length : Int) = 0 then (some (⟨#[97]⟩ : ByteArray)) else (if 0 ≤ (l0.length : Int) then (if ((l0.length : Int) : Int).toNat ≤ 281474976710656 then (spec_AnWord.l0 k l0 (List.replicate ((l0.length : Int) : Int).toNat 0) l0 (l0.length : Int) 0) else (none)) else (none))
theorem spec_AnWord.mono_l : ∀ k, (∀ y0 y1 y2 y3 y4, LeO (spec_AnWord.l0 k y0 y1 y2 y3 y4) (spec_AnWord.l0 (k + 1) y0 y1 y2 y3 y4))
  | 0 => fun _ _ _ _ _ r h => by simp [spec_AnWord.l0] at h
  | k + 1 => by
    have ih0 := spec_AnWord.mono_l k
    · intro y0 y1 y2 y3 y4
      unfold spec_AnWord.l0
      repeat' first
      | (with_reducible exact ih0 _ _ _ _ _)
      | (with_reducible exact LeO.refl _)
      | (with_reducible exact LeO.none _)
      | (with_reducible refine LeO.ite ?_ ?_)
      | (with_reducible refine LeO.bind ?_ (fun _ => ?_))
      | exact ih0 _ _ _ _ _
      | exact LeO.none _
      | refine LeO.ite ?_ ?_
      | refine LeO.bind ?_ (fun _ => ?_)
theorem spec_AnWord.mono : ∀ a0 k, LeO (spec_AnWord.f k a0) (spec_AnWord.f (k + 1) a0) := by
  intro a0 k
  have ih0 := spec_AnWord.mono_l k
  unfold spec_AnWord.f
  repeat' first
      | (with_reducible exact ih0 _ _ _ _ _)
      | (with_reducible exact LeO.refl _)
      | (with_reducible exact LeO.none _)
      | (with_reducible refine LeO.ite ?_ ?_)
      | (with_reducible refine LeO.bind ?_ (fun _ => ?_))
      | exact ih0 _ _ _ _ _
      | exact LeO.none _
      | refine LeO.ite ?_ ?_
      | refine LeO.bind ?_ (fun _ => ?_)
set_option maxHeartbeats 8000000 in
set_option maxRecDepth 100000 in
theorem spec_AnWord.calls (k : Nat) (A0 : Option Addr) (c0 : Nat) (l0 : List Int) (r : ByteArray) (w : World) (hr0 : Kd.C (Kd.int .u8) w A0 l0.length l0) (hc0 : l0.length ≤ c0) (h : spec_AnWord.f k l0 = some r) :
    Calls Tryd.prog 31 #[.slice A0 l0.length c0] w fun e w' => e = .returned (.string r) ∧ Below w.heap.size w w' := by
  have HR0 := Aside0.mk hr0
  have HC0 := Aside0.mk hc0
  clear hr0 hc0
  have HB := Aside0.mk (Below.refl w.heap.size w)
  have H : (if (l0.length : Int) = 0 then (some (⟨#[97]⟩ : ByteArray)) else (if 0 ≤ (l0.length : Int) then (if ((l0.length : Int) : Int).toNat ≤ 281474976710656 then (spec_AnWord.l0 k l0 (List.replicate ((l0.length : Int) : Int).toNat 0) l0 (l0.length : Int) 0) else (none)) else (none))) = some r := h
  clear h
  by_cases c2 : (l0.length : Int) = 0
  · rw [if_pos c2] at H
    have c2b0 : ((l0.length : Int) == 0) = true := beq_iff_eq.mpr c2
    have c2b1 : ((l0.length : Int) != 0) = false := bne_eq_false_iff_eq.mpr c2
    clear c2
    obtain rfl := Option.some.inj H
    go_enter Tryd.func31, Tryd.ntmps31
    go_wp2
    go_ret
    exact ⟨by first | rfl | (simp [errW_none, errW_some] <;> rfl) | (simp [*, errW_none, errW_some] <;> rfl), by repeat (first | (with_reducible first | exact HB.out | apply below_alloc | apply pw_below_drewN | apply below_drew1) | exact HB.out)⟩
  · rw [if_neg c2] at H
    have c2b0 : ((l0.length : Int) == 0) = false := beq_eq_false_iff_ne.mpr c2
    have c2b1 : ((l0.length : Int) != 0) = true := bne_iff_ne.mpr c2
    have c2b2 : ¬ (l0 = []) := fun h_ => c2 (by rw [h_]; rfl)
    by_cases c3 : 0 ≤ (l0.length : Int)
    · rw [if_pos c3] at H
      have c3b0 := eq_true c3
      have c3b1 : decide (0 ≤ (l0.length : Int)) = true := decide_eq_true c3
      clear c3
      by_cases c4 : ((l0.length : Int) : Int).toNat ≤ 281474976710656
      · rw [if_pos c4] at H
        have c4b0 := eq_true c4
        have c4b1 : decide (((l0.length : Int) : Int).toNat ≤ 281474976710656) = true := decide_eq_true c4
        clear c4
        obtain ⟨y108, hy108⟩ : ∃ y_ : List Int, y_ = (List.replicate ((l0.length : Int) : Int).toNat 0) := ⟨_, rfl⟩
        replace H : (spec_AnWord.l0 k l0 y108 l0 (l0.length : Int) 0) = some r := by first | (rw [hy108]; with_reducible exact H) | (have H2_ := (Option.bind_some _ _).symm.trans H; rw [hy108]; with_reducible exact H2_) | (have H2_ := (Option.bind_some _ _).symm.trans H; with_reducible exact H2_) | with_reducible exact H | (rw [hy108]; exact H) | exact H
        have Ny108 := Aside0.mk hy108
        clear hy108
        have H' := Aside0.mk H
        clear H
        go_enter Tryd.func31, Tryd.ntmps31
        go_wp2_with (first | (go_at_call 32; refine (idCut_at _ _ _ _ _ _ (by assumption) (by assumption)).mono ?_; rintro e w_ ⟨rfl, rfl⟩) | ((with_reducible refine gate_dst (N := 11) rfl ?_); refine Kd.R_make (Kd.int .u8) _ 5 rfl (N := 11) rfl 27 _ _ rfl (l0.length : Int) rfl rfl Tryd.underlying27 (.int .u8 0) 1 info5 rfl (by decide) (by omega) 0 (ok := fun _ => True) (okp := fun _ => True) rfl (fun _ hk => hk) trivial (of_decide_eq_true (by first | (with_reducible assumption) | assumption)) (Nat.le_trans (Nat.mul_le_mul_right _ (of_decide_eq_true (by first | (with_reducible assumption) | assumption) : (l0.length : Int).toNat ≤ 281474976710656)) (by omega)) (Below.refl _ _) (Nat.le_refl _) ?_; intro v109 w5 ho6 hb hg_ hnew_; clear hg_ hnew_; (first | rw [← Ny108.out] at ho6 | (simp only [Int.reduceToNat] at ho6; rw [← Ny108.out] at ho6)); have n0_ := Aside0.mk (Kd.R_lower ho6 (below_size (by repeat (first | (with_reducible first | exact HB.out | apply below_alloc | apply pw_below_drewN | apply below_drew1) | exact HB.out)))); have n1_ := Aside0.mk (below_step (by repeat (first | (with_reducible first | exact HB.out | apply below_alloc | apply pw_below_drewN | apply below_drew1) | exact HB.out)) hb); clear HB; have HO110 := n0_; have HB := n1_; clear n0_ n1_; clear hb ho6))
        go_loopg [14] k (fun kq v14 w' => ∃ (x3_1 : List Int) (x14_1 : Int), v14 = .int .i64 x14_1 ∧ Aside0 (spec_AnWord.l0 kq l0 x3_1 l0 (l0.length : Int) x14_1 = some r) ∧ Aside0 (kq ≤ k) ∧ Aside0 (Kd.R (Kd.int .u8) 5 w' w.heap.size (fun _ => True) v109 x3_1) ∧ Aside0 (Below w.heap.size w w'))
        case atStart => exact ⟨(y108), (0), (by first | rfl | (simp; done) | (simp [*]; done)), H', ⟨Nat.le_refl _⟩, ⟨by (with_reducible repeat (first | apply Kd.R_alloc | apply Kd.R_drewN | apply Kd.R_drew)); exact HO110.out⟩, ⟨by repeat (first | (with_reducible first | exact HB.out | apply below_alloc | apply pw_below_drewN | apply below_drew1) | exact HB.out)⟩⟩
        case round =>
          clear H'
          try clear c2
          try clear c2b0
          try clear c2b1
          try clear c2b2
          try clear p2
          try clear c3
          try clear c3b0
          try clear c3b1
          try clear c4
          try clear c4b0
          try clear c4b1
          obtain ⟨x3_1, x14_1, rfl, HA, HK1, HO_3, HB⟩ := hrel
          cases gk with
          | zero => exact absurd HA.out (by simp [spec_AnWord.l0])
          | succ k1 =>
            have H := HA.out
            clear HA
            simp only [spec_AnWord.l0] at H
            by_cases c7 : x14_1 < (l0.length : Int)
            · rw [if_pos c7] at H
              have c7b0 : decide (x14_1 < (l0.length : Int)) = true := decide_eq_true c7
              clear c7
              by_cases c8 : 0 ≤ x14_1
              · rw [if_pos c8] at H
                have c8b0 : decide (0 ≤ x14_1) = true := decide_eq_true c8
                clear c8
                by_cases c9 : x14_1 < (l0.length : Int)
                · rw [if_pos c9] at H
                  have c9b0 : decide (x14_1 < (l0.length : Int)) = true := decide_eq_true c9
                  clear c9
                  obtain ⟨ji10, hji10⟩ : ∃ j_ : Int, (Int.tmod (wrap64 (rd l0 x14_1)) 62) = j_ := ⟨_, rfl⟩
                  replace H : (if 0 ≤ (ji10) then (if (ji10) < 63 then (if x14_1 < (x3_1.length : Int) then (spec_AnWord.l0 k1 l0 (x3_1.set (x14_1 : Int).toNat (bt (⟨#[97, 98, 99, 100, 101, 102, 103, 104, 105, 106, 107, 108, 109, 110, 111, 112, 113, 114, 115, 116, 117, 118, 119, 120, 121, 122, 65, 66, 67, 68, 69, 70, 71, 72, 73, 74, 75, 76, 77, 78, 79, 80, 81, 82, 83, 84, 85, 86, 87, 88, 89, 90, 48, 49, 50, 51, 52, 53, 54, 55, 56, 57, 95]⟩ : ByteArray) (ji10))) l0 (l0.length : Int) (wrap64 (x14_1 + 1))) else (none)) else (none)) else (none)) = some r := by first | (rw [hji10] at H; exact H) | (simp only [hji10] at H ⊢; exact H)
                  by_cases c11 : 0 ≤ (ji10)
                  · rw [if_pos c11] at H
                    have c11b0 : decide (0 ≤ (ji10)) = true := decide_eq_true c11
                    clear c11
                    by_cases c12 : (ji10) < 63
                    · rw [if_pos c12] at H
                      have c12b0 : decide ((ji10) < 63) = true := decide_eq_true c12
                      clear c12
                      by_cases c14 : x14_1 < (x3_1.length : Int)
                      · rw [if_pos c14] at H
                        have c14b0 : decide (x14_1 < (x3_1.length : Int)) = true := decide_eq_true c14
                        clear c14
                        obtain ⟨y112, hy112⟩ : ∃ y_ : List Int, y_ = (x3_1.set (x14_1 : Int).toNat (bt (⟨#[97, 98, 99, 100, 101, 102, 103, 104, 105, 106, 107, 108, 109, 110, 111, 112, 113, 114, 115, 116, 117, 118, 119, 120, 121, 122, 65, 66, 67, 68, 69, 70, 71, 72, 73, 74, 75, 76, 77, 78, 79, 80, 81, 82, 83, 84, 85, 86, 87, 88, 89, 90, 48, 49, 50, 51, 52, 53, 54, 55, 56, 57, 95]⟩ : ByteArray) (ji10))) := ⟨_, rfl⟩
                        replace H : (spec_AnWord.l0 k1 l0 y112 l0 (l0.length : Int) (wrap64 (x14_1 + 1))) = some r := by first | (rw [hy112]; with_reducible exact H) | (have H2_ := (Option.bind_some _ _).symm.trans H; rw [hy112]; with_reducible exact H2_) | (have H2_ := (Option.bind_some _ _).symm.trans H; with_reducible exact H2_) | with_reducible exact H | (rw [hy112]; exact H) | exact H
                        have Ny112 := Aside0.mk hy112
                        clear hy112
                        have H' := Aside0.mk H
                        clear H
                        have p111 : 0 ≤ (x14_1 : Int) := of_decide_eq_true (by first | (with_reducible assumption) | assumption)
                        have q111 : x14_1 < (l0.length : Int) := of_decide_eq_true (by first | (with_reducible assumption) | assumption)
                        obtain ⟨ad111, e111, hx111_0⟩ := Kd.at_int HR0.out x14_1 p111 q111
                        cases e111
                        replace hx111_0 := (HB.out.cell (World.block_lt_of_cell? w _ hx111_0)).trans hx111_0
                        replace p111 := eq_true p111
                        replace q111 := eq_true q111
                        have p13 : 0 ≤ ((ji10) : Int) := of_decide_eq_true (by first | (with_reducible assumption) | assumption)
                        have q13 : (ji10) < (63 : Int) := of_decide_eq_true (by first | (with_reducible assumption) | assumption)
                        have hx13 := bt_at (⟨#[97, 98, 99, 100, 101, 102, 103, 104, 105, 106, 107, 108, 109, 110, 111, 112, 113, 114, 115, 116, 117, 118, 119, 120, 121, 122, 65, 66, 67, 68, 69, 70, 71, 72, 73, 74, 75, 76, 77, 78, 79, 80, 81, 82, 83, 84, 85, 86, 87, 88, 89, 90, 48, 49, 50, 51, 52, 53, 54, 55, 56, 57, 95]⟩ : ByteArray) (ji10)
                        replace p13 := eq_true p13
                        replace q13 := eq_true q13
                        have p15 : 0 ≤ (x14_1 : Int) := of_decide_eq_true (by first | (with_reducible assumption) | assumption)
                        have q15 : (x14_1 : Int) < ((x3_1.length : Int) : Int) := of_decide_eq_true (by first | (with_reducible assumption) | assumption)
                        obtain ⟨go15, co15, eo15, gb15, gl15, cl15, HG15⟩ := Kd.R_form HO_3.out (by omega)
                        (first | cases eo15 | (injection eo15 with ea_ en_ ec_; (first | subst ea_ | (injection ea_ with ea_; subst ea_)); subst ec_; clear en_))
                        have GB15 := Aside0.mk gb15
                        have GG15 := Aside0.mk HG15
                        clear gb15 gl15 HG15
                        obtain ⟨hx15_0, hf15_0⟩ := Kd.R_celln 0 HO_3.out (x14_1 : Int) p15 q15
                        replace p15 := eq_true p15
                        replace q15 := eq_true q15
                        have HP16 := Kd.R_putg HO_3.out (x14_1 : Int) (bt (⟨#[97, 98, 99, 100, 101, 102, 103, 104, 105, 106, 107, 108, 109, 110, 111, 112, 113, 114, 115, 116, 117, 118, 119, 120, 121, 122, 65, 66, 67, 68, 69, 70, 71, 72, 73, 74, 75, 76, 77, 78, 79, 80, 81, 82, 83, 84, 85, 86, 87, 88, 89, 90, 48, 49, 50, 51, 52, 53, 54, 55, 56, 57, 95]⟩ : ByteArray) (ji10))
                        go_wp2_with (first | (go_at_call 32; refine (idCut_at _ _ _ _ _ _ (by assumption) (by assumption)).mono ?_; rintro e w_ ⟨rfl, rfl⟩) | ((with_reducible refine gate_store (t := 5) (p := 25) rfl ?_); refine store_event (t := 5) (p := 25) (v := ?vo_w17) (w1 := (wr.setCell ⟨go15, (x14_1 : Int).toNat, none⟩ (.int .u8 (bt (⟨#[97, 98, 99, 100, 101, 102, 103, 104, 105, 106, 107, 108, 109, 110, 111, 112, 113, 114, 115, 116, 117, 118, 119, 120, 121, 122, 65, 66, 67, 68, 69, 70, 71, 72, 73, 74, 75, 76, 77, 78, 79, 80, 81, 82, 83, 84, 85, 86, 87, 88, 89, 90, 48, 49, 50, 51, 52, 53, 54, 55, 56, 57, 95]⟩ : ByteArray) (ji10))))) ?hg ?ho ?hn ?hr ?_; (case ho => rfl); (case hg => rfl); (case hn => rfl); (case hr => first | (go_simp; done) | (go_simp; rfl)); intro w17 hw; have hg : wr.grownBy w17 (some go15) := (by rw [hw]; exact HP16.2); have hp_ : Kd.R (Kd.int .u8) 5 w17 w.heap.size (fun _ => True) (.slice (some ⟨go15, 0, none⟩) x3_1.length co15) y112 := (by rw [hw, Ny112.out]; exact HP16.1); clear HP16; have n0_ := Aside0.mk (hp_); have n1_ := Aside0.mk ((by rw [hw]; exact below_set (HB.out) GB15.out : Below w.heap.size w w17)); clear HO_3; clear HB; have HO_3 := n0_; have HB := n1_; clear n0_ n1_; clear hg hw hp_))
                        go_roundg k1
                        case measure => have := HK1.out; omega
                        case rel => exact ⟨(y112), (wrap64 (x14_1 + 1)), (by first | rfl | (simp; done) | (simp [*]; done)), H', ⟨by have := HK1.out; omega⟩, ⟨by (with_reducible repeat (first | apply Kd.R_alloc | apply Kd.R_drewN | apply Kd.R_drew)); exact HO_3.out⟩, ⟨by repeat (first | (with_reducible first | exact HB.out | apply below_alloc | apply pw_below_drewN | apply below_drew1) | exact HB.out)⟩⟩
                      · rw [if_neg c14] at H
                        exact absurd H (by simp)
                    · rw [if_neg c12] at H
                      exact absurd H (by simp)
                  · rw [if_neg c11] at H
                    exact absurd H (by simp)
                · rw [if_neg c9] at H
                  exact absurd H (by simp)
              · rw [if_neg c8] at H
                exact absurd H (by simp)
            · rw [if_neg c7] at H
              have c7b0 : decide (x14_1 < (l0.length : Int)) = false := decide_eq_false c7
              clear c7
              by_cases c18 : 0 < (l0.length : Int)
              · rw [if_pos c18] at H
                have c18b0 : decide (0 < (l0.length : Int)) = true := decide_eq_true c18
                have c18b1 : decide (0 < l0.length) = true := decide_eq_true (by omega)
                clear c18
                obtain ⟨ji19, hji19⟩ : ∃ j_ : Int, (Int.tmod (wrap64 (rd l0 0)) 52) = j_ := ⟨_, rfl⟩
                replace H : (if 0 ≤ (ji19) then (if (ji19) < 63 then (if 0 < (x3_1.length : Int) then (some (strOfNums (x3_1.set (0 : Int).toNat (bt (⟨#[97, 98, 99, 100, 101, 102, 103, 104, 105, 106, 107, 108, 109, 110, 111, 112, 113, 114, 115, 116, 117, 118, 119, 120, 121, 122, 65, 66, 67, 68, 69, 70, 71, 72, 73, 74, 75, 76, 77, 78, 79, 80, 81, 82, 83, 84, 85, 86, 87, 88, 89, 90, 48, 49, 50, 51, 52, 53, 54, 55, 56, 57, 95]⟩ : ByteArray) (ji19))))) else (none)) else (none)) else (none)) = some r := by first | (rw [hji19] at H; exact H) | (simp only [hji19] at H ⊢; exact H)
                by_cases c20 : 0 ≤ (ji19)
                · rw [if_pos c20] at H
                  have c20b0 : decide (0 ≤ (ji19)) = true := decide_eq_true c20
                  clear c20
                  by_cases c21 : (ji19) < 63
                  · rw [if_pos c21] at H
                    have c21b0 : decide ((ji19) < 63) = true := decide_eq_true c21
                    clear c21
                    by_cases c23 : 0 < (x3_1.length : Int)
                    · rw [if_pos c23] at H
                      have c23b0 : decide (0 < (x3_1.length : Int)) = true := decide_eq_true c23
                      have c23b1 : decide (0 < x3_1.length) = true := decide_eq_true (by omega)
                      clear c23
                      obtain ⟨y114, hy114⟩ : ∃ y_ : List Int, y_ = (x3_1.set (0 : Int).toNat (bt (⟨#[97, 98, 99, 100, 101, 102, 103, 104, 105, 106, 107, 108, 109, 110, 111, 112, 113, 114, 115, 116, 117, 118, 119, 120, 121, 122, 65, 66, 67, 68, 69, 70, 71, 72, 73, 74, 75, 76, 77, 78, 79, 80, 81, 82, 83, 84, 85, 86, 87, 88, 89, 90, 48, 49, 50, 51, 52, 53, 54, 55, 56, 57, 95]⟩ : ByteArray) (ji19))) := ⟨_, rfl⟩
                      replace H : (some (strOfNums y114)) = some r := by first | (rw [hy114]; with_reducible exact H) | (have H2_ := (Option.bind_some _ _).symm.trans H; rw [hy114]; with_reducible exact H2_) | (have H2_ := (Option.bind_some _ _).symm.trans H; with_reducible exact H2_) | with_reducible exact H | (rw [hy114]; exact H) | exact H
                      have Ny114 := Aside0.mk hy114
                      clear hy114
                      obtain rfl := Option.some.inj H
                      have p113 : 0 ≤ (0 : Int) := (by omega)
                      have q113 : 0 < (l0.length : Int) := of_decide_eq_true (by first | (with_reducible assumption) | assumption)
                      obtain ⟨ad113, e113, hx113_0⟩ := Kd.at_int HR0.out 0 p113 q113
                      cases e113
                      have qi113 : (0 < l0.length) = True := eq_true (by omega)
                      (try rw [show ((0 : Int)).toNat = 0 from rfl] at hx113_0)
                      (try rw [Addr.add_zero'] at hx113_0)
                      replace hx113_0 := (HB.out.cell (World.block_lt_of_cell? w _ hx113_0)).trans hx113_0
                      replace p113 := eq_true p113
                      replace q113 := eq_true q113
                      have p22 : 0 ≤ ((ji19) : Int) := of_decide_eq_true (by first | (with_reducible assumption) | assumption)
                      have q22 : (ji19) < (63 : Int) := of_decide_eq_true (by first | (with_reducible assumption) | assumption)
                      have hx22 := bt_at (⟨#[97, 98, 99, 100, 101, 102, 103, 104, 105, 106, 107, 108, 109, 110, 111, 112, 113, 114, 115, 116, 117, 118, 119, 120, 121, 122, 65, 66, 67, 68, 69, 70, 71, 72, 73, 74, 75, 76, 77, 78, 79, 80, 81, 82, 83, 84, 85, 86, 87, 88, 89, 90, 48, 49, 50, 51, 52, 53, 54, 55, 56, 57, 95]⟩ : ByteArray) (ji19)
                      replace p22 := eq_true p22
                      replace q22 := eq_true q22
                      have p24 : 0 ≤ (0 : Int) := (by omega)
                      have q24 : (0 : Int) < ((x3_1.length : Int) : Int) := of_decide_eq_true (by first | (with_reducible assumption) | assumption)
                      have qi24 : (0 < x3_1.length) = True := eq_true (by omega)
                      obtain ⟨go24, co24, eo24, gb24, gl24, cl24, HG24⟩ := Kd.R_form HO_3.out (by omega)
                      (first | cases eo24 | (injection eo24 with ea_ en_ ec_; (first | subst ea_ | (injection ea_ with ea_; subst ea_)); subst ec_; clear en_))
                      have GB24 := Aside0.mk gb24
                      have GG24 := Aside0.mk HG24
                      clear gb24 gl24 HG24
                      obtain ⟨hx24_0, hf24_0⟩ := Kd.R_celln 0 HO_3.out (0 : Int) p24 q24
                      (try rw [show ((0 : Int)).toNat = 0 from rfl] at hx24_0)
                      (try simp only [Nat.reduceMul, Nat.zero_mul, Nat.zero_add, Nat.reduceAdd] at hx24_0)
                      (try rw [show ((0 : Int)).toNat = 0 from rfl] at hf24_0)
                      (try simp only [Nat.reduceMul, Nat.zero_mul, Nat.zero_add, Nat.reduceAdd] at hf24_0)
                      replace p24 := eq_true p24
                      replace q24 := eq_true q24
                      have HP25 := Kd.R_putg HO_3.out (0 : Int) (bt (⟨#[97, 98, 99, 100, 101, 102, 103, 104, 105, 106, 107, 108, 109, 110, 111, 112, 113, 114, 115, 116, 117, 118, 119, 120, 121, 122, 65, 66, 67, 68, 69, 70, 71, 72, 73, 74, 75, 76, 77, 78, 79, 80, 81, 82, 83, 84, 85, 86, 87, 88, 89, 90, 48, 49, 50, 51, 52, 53, 54, 55, 56, 57, 95]⟩ : ByteArray) (ji19))
                      go_wp2_with (first | (go_at_call 32; refine (idCut_at _ _ _ _ _ _ (by assumption) (by assumption)).mono ?_; rintro e w_ ⟨rfl, rfl⟩) | ((with_reducible refine gate_store (t := 5) (p := 34) rfl ?_); refine store_event (t := 5) (p := 34) (v := ?vo_w26) (w1 := (wr.setCell ⟨go24, (0 : Int).toNat, none⟩ (.int .u8 (bt (⟨#[97, 98, 99, 100, 101, 102, 103, 104, 105, 106, 107, 108, 109, 110, 111, 112, 113, 114, 115, 116, 117, 118, 119, 120, 121, 122, 65, 66, 67, 68, 69, 70, 71, 72, 73, 74, 75, 76, 77, 78, 79, 80, 81, 82, 83, 84, 85, 86, 87, 88, 89, 90, 48, 49, 50, 51, 52, 53, 54, 55, 56, 57, 95]⟩ : ByteArray) (ji19))))) ?hg ?ho ?hn ?hr ?_; (case ho => rfl); (case hg => rfl); (case hn => rfl); (case hr => first | (go_simp; done) | (go_simp; rfl)); intro w26 hw; have hg : wr.grownBy w26 (some go24) := (by rw [hw]; exact HP25.2); have hp_ : Kd.R (Kd.int .u8) 5 w26 w.heap.size (fun _ => True) (.slice (some ⟨go24, 0, none⟩) x3_1.length co24) y114 := (by rw [hw, Ny114.out]; exact HP25.1); clear HP25; have n0_ := Aside0.mk (hp_); have n1_ := Aside0.mk ((by rw [hw]; exact below_set (HB.out) GB24.out : Below w.heap.size w w26)); clear HO_3; clear HB; have HO_3 := n0_; have HB := n1_; clear n0_ n1_; clear hg hw hp_; have hcv27 := own_string (P := Tryd.prog) Tryd.underlying27 Tryd.underlying5 Tryd.underlying9 (Kd.own_of_R HO_3.out)))
                      go_ret
                      exact ⟨by first | rfl | (simp [errW_none, errW_some] <;> rfl) | (simp only [← hji19]; first | rfl | (simp [errW_none, errW_some] <;> rfl)) | (simp [*, errW_none, errW_some] <;> rfl), by repeat (first | (with_reducible first | exact HB.out | apply below_alloc | apply pw_below_drewN | apply below_drew1) | exact HB.out)⟩
                    · rw [if_neg c23] at H
                      exact absurd H (by simp)
                  · rw [if_neg c21] at H
                    exact absurd H (by simp)
                · rw [if_neg c20] at H
                  exact absurd H (by simp)
              · rw [if_neg c18] at H
                exact absurd H (by simp)
      · rw [if_neg c4] at H
        exact absurd H (by simp)
    · rw [if_neg c3] at H
      exact absurd H (by simp)

/-! ### laws_idCut: function 32 -/
def laws_idCut.f (l0 : List Int) : Option (List Int) := if 0 ≤ (mn (l0.length : Int) 1000) then (if (mn (l0.length : Int) 1000) ≤ (l0.length : Int) then (some (l0.take ((mn (l0.length : Int) 1000) : Int).toNat)) else (none)) else (none)
set_option maxHeartbeats 8000000 in
set_option maxRecDepth 100000 in
theorem laws_idCut.calls (P0_ : Nat → Prop) (u9000_ : Value) (l0 : List Int) (r : List Int) (w0 w : World) (hB : Below w0.heap.size w0 w) (ho0 : Kd.R (Kd.int .u8) 5 w w0.heap.size P0_ u9000_ l0) (h : laws_idCut.f l0 = some r) :
    Calls Tryd.prog 32 #[u9000_] w fun e w' => ∃ v0_ : Value, e = .returned (v0_) ∧ Kd.R (Kd.int .u8) 5 w' w0.heap.size (fun k_ => (P0_ k_ ∨ w.heap.size ≤ k_)) v0_ r ∧ Below w0.heap.size w0 w' ∧ Kept w w' (fun k_ => P0_ k_) := by
  have HO0 := Aside0.mk (show Kd.R (Kd.int .u8) 5 w w0.heap.size (fun k_ => (P0_ k_ ∨ w.heap.size ≤ k_)) u9000_ l0 from Kd.R_mono ho0 (fun k_ hk => (.inl hk)))
  have HK := Aside0.mk (Kept.refl w (fun k_ => P0_ k_))
  have HW0 := Aside0.mk hB.size
  have HB := Aside0.mk hB
  clear hB
  have H : (if 0 ≤ (mn (l0.length : Int) 1000) then (if (mn (l0.length : Int) 1000) ≤ (l0.length : Int) then (some (l0.take ((mn (l0.length : Int) 1000) : Int).toNat)) else (none)) else (none)) = some r := h
  clear h
  obtain ⟨ji2, hji2⟩ : ∃ j_ : Int, (mn (l0.length : Int) 1000) = j_ := ⟨_, rfl⟩
  replace H : (if 0 ≤ (ji2) then (if (ji2) ≤ (l0.length : Int) then (some (l0.take ((ji2) : Int).toNat)) else (none)) else (none)) = some r := by first | (rw [hji2] at H; exact H) | (simp only [hji2] at H ⊢; exact H)
  (try (have hji2h : ji2 ≤ 1000 := by (rw [← hji2]; unfold mn; (repeat' split) <;> omega)))
  (try (have hji2g : ji2 ≤ 64 := by omega))
  (try (have hji2l : 0 ≤ ji2 := by (rw [← hji2]; unfold mn; (repeat' split) <;> omega)))
  (try (have hji2m : 0 ≤ ji2 := by omega))
  have hji2_ : (if 1000 < (l0.length : Int) then 1000 else (l0.length : Int)) = ji2 := hji2
  by_cases c3 : 0 ≤ (ji2)
  · rw [if_pos c3] at H
    have c3b0 := eq_true c3
    have c3b1 : decide (0 ≤ (ji2)) = true := decide_eq_true c3
    clear c3
    by_cases c4 : (ji2) ≤ (l0.length : Int)
    · rw [if_pos c4] at H
      have c4b0 := eq_true c4
      have c4b1 : decide ((ji2) ≤ (l0.length : Int)) = true := decide_eq_true c4
      clear c4
      obtain ⟨y115, hy115⟩ : ∃ y_ : List Int, y_ = (l0.take ((ji2) : Int).toNat) := ⟨_, rfl⟩
      replace H : (some y115) = some r := by first | (rw [hy115]; with_reducible exact H) | (have H2_ := (Option.bind_some _ _).symm.trans H; rw [hy115]; with_reducible exact H2_) | (have H2_ := (Option.bind_some _ _).symm.trans H; with_reducible exact H2_) | with_reducible exact H | (rw [hy115]; exact H) | exact H
      have Ny115 := Aside0.mk hy115
      clear hy115
      obtain rfl := Option.some.inj H
      obtain ⟨Ao5, co5, eo5⟩ := Kd.R_slice HO0.out
      subst eo5
      have q6 : ((ji2) : Int) ≤ ((l0.length : Int) : Int) := of_decide_eq_true (by first | (with_reducible assumption) | assumption)
      obtain ⟨i06, hi06, _, hsz6, _⟩ := info_parts info5
      have hcut6 := cut_to (P := Tryd.prog) 27 5 .i64 Tryd.underlying27 hi06 Ao5 l0.length co5 (ji2) (of_decide_eq_true (by first | (with_reducible assumption) | assumption)) q6 (Kd.R_reads' HO0.out).2.1
      have hr6 := Kd.R_take (m := ((ji2) : Int).toNat) HO0.out (by omega)
      have hy6 : y115.length = ((ji2) : Int).toNat := (by rw [Ny115.out, List.length_take]; omega)
      rw [← Ny115.out] at hr6
      rw [← hy6] at hr6 hcut6
      clear hy6 hi06 hsz6 HO0
      have HO117 := Aside0.mk hr6
      clear hr6
      replace q6 := eq_true q6
      go_enter Tryd.func32, Tryd.ntmps32
      go_wp2
      go_ret
      exact ⟨_, by first | rfl | (simp [errW_none, errW_some] <;> rfl) | (simp only [← hji2]; first | rfl | (simp [errW_none, errW_some] <;> rfl)) | (simp [*, errW_none, errW_some] <;> rfl), by (with_reducible repeat (first | apply Kd.R_alloc | apply Kd.R_drewN | apply Kd.R_drew)); exact HO117.out, by repeat (first | (with_reducible first | exact HB.out | apply below_alloc | apply pw_below_drewN | apply below_drew1) | exact HB.out), by repeat (first | (with_reducible first | exact HK.out | apply Kept.alloc | apply Kept.drewN | apply Kept.drew) | exact HK.out)⟩
    · rw [if_neg c4] at H
      exact absurd H (by simp)
  · rw [if_neg c3] at H
    exact absurd H (by simp)

/-! ### spec_LgEscapes: function 33 -/
def spec_LgEscapes.f  : Option ((List (S56))) := some (([(⟨(⟨#[36, 83, 80, 36]⟩ : ByteArray), (⟨#[64]⟩ : ByteArray)⟩ : S56), (⟨(⟨#[36, 66, 80, 36]⟩ : ByteArray), (⟨#[42]⟩ : ByteArray)⟩ : S56), (⟨(⟨#[36, 82, 70, 36]⟩ : ByteArray), (⟨#[38]⟩ : ByteArray)⟩ : S56), (⟨(⟨#[36, 76, 84, 36]⟩ : ByteArray), (⟨#[60]⟩ : ByteArray)⟩ : S56), (⟨(⟨#[36, 71, 84, 36]⟩ : ByteArray), (⟨#[62]⟩ : ByteArray)⟩ : S56), (⟨(⟨#[36, 76, 80, 36]⟩ : ByteArray), (⟨#[40]⟩ : ByteArray)⟩ : S56), (⟨(⟨#[36, 82, 80, 36]⟩ : ByteArray), (⟨#[41]⟩ : ByteArray)⟩ : S56), (⟨(⟨#[36, 67, 36]⟩ : ByteArray), (⟨#[44]⟩ : ByteArray)⟩ : S56), (⟨(⟨#[36, 117, 50, 48, 36]⟩ : ByteArray), (⟨#[32]⟩ : ByteArray)⟩ : S56), (⟨(⟨#[36, 117, 50, 50, 36]⟩ : ByteArray), (⟨#[34]⟩ : ByteArray)⟩ : S56), (⟨(⟨#[36, 117, 50, 55, 36]⟩ : ByteArray), (⟨#[39]⟩ : ByteArray)⟩ : S56), (⟨(⟨#[36, 117, 50, 98, 36]⟩ : ByteArray), (⟨#[43]⟩ : ByteArray)⟩ : S56), (⟨(⟨#[36, 117, 51, 98, 36]⟩ : ByteArray), (⟨#[59]⟩ : ByteArray)⟩ : S56), (⟨(⟨#[36, 117, 53, 98, 36]⟩ : ByteArray), (⟨#[91]⟩ : ByteArray)⟩ : S56), (⟨(⟨#[36, 117, 53, 100, 36]⟩ : ByteArray), (⟨#[93]⟩ : ByteArray)⟩ : S56), (⟨(⟨#[36, 117, 55, 98, 36]⟩ : ByteArray), (⟨#[123]⟩ : ByteArray)⟩ : S56), (⟨(⟨#[36, 117, 55, 100, 36]⟩ : ByteArray), (⟨#[125]⟩ : ByteArray)⟩ : S56), (⟨(⟨#[36, 117, 55, 101, 36]⟩ : ByteArray), (⟨#[126]⟩ : ByteArray)⟩ : S56), (⟨(⟨#[46, 46]⟩ : ByteArray), (⟨#[58, 58]⟩ : ByteArray)⟩ : S56)] : List (S56)))
set_option maxHeartbeats 8000000 in
set_option maxRecDepth 100000 in
theorem spec_LgEscapes.calls  (r : List (S56)) (w : World) (h : spec_LgEscapes.f  = some r) :
    Calls Tryd.prog 33 #[] w fun e w' => ∃ v0_ : Value, e = .returned (v0_) ∧ Kd.R k56 56 w' w.heap.size (fun _ => True) v0_ r ∧ Below w.heap.size w w' := by
  have hu56 := Tryd.underlying56
  have HB := Aside0.mk (Below.refl w.heap.size w)
  have H : (some (([(⟨(⟨#[36, 83, 80, 36]⟩ : ByteArray), (⟨#[64]⟩ : ByteArray)⟩ : S56), (⟨(⟨#[36, 66, 80, 36]⟩ : ByteArray), (⟨#[42]⟩ : ByteArray)⟩ : S56), (⟨(⟨#[36, 82, 70, 36]⟩ : ByteArray), (⟨#[38]⟩ : ByteArray)⟩ : S56), (⟨(⟨#[36, 76, 84, 36]⟩ : ByteArray), (⟨#[60]⟩ : ByteArray)⟩ : S56), (⟨(⟨#[36, 71, 84, 36]⟩ : ByteArray), (⟨#[62]⟩ : ByteArray)⟩ : S56), (⟨(⟨#[36, 76, 80, 36]⟩ : ByteArray), (⟨#[40]⟩ : ByteArray)⟩ : S56), (⟨(⟨#[36, 82, 80, 36]⟩ : ByteArray), (⟨#[41]⟩ : ByteArray)⟩ : S56), (⟨(⟨#[36, 67, 36]⟩ : ByteArray), (⟨#[44]⟩ : ByteArray)⟩ : S56), (⟨(⟨#[36, 117, 50, 48, 36]⟩ : ByteArray), (⟨#[32]⟩ : ByteArray)⟩ : S56), (⟨(⟨#[36, 117, 50, 50, 36]⟩ : ByteArray), (⟨#[34]⟩ : ByteArray)⟩ : S56), (⟨(⟨#[36, 117, 50, 55, 36]⟩ : ByteArray), (⟨#[39]⟩ : ByteArray)⟩ : S56), (⟨(⟨#[36, 117, 50, 98, 36]⟩ : ByteArray), (⟨#[43]⟩ : ByteArray)⟩ : S56), (⟨(⟨#[36, 117, 51, 98, 36]⟩ : ByteArray), (⟨#[59]⟩ : ByteArray)⟩ : S56), (⟨(⟨#[36, 117, 53, 98, 36]⟩ : ByteArray), (⟨#[91]⟩ : ByteArray)⟩ : S56), (⟨(⟨#[36, 117, 53, 100, 36]⟩ : ByteArray), (⟨#[93]⟩ : ByteArray)⟩ : S56), (⟨(⟨#[36, 117, 55, 98, 36]⟩ : ByteArray), (⟨#[123]⟩ : ByteArray)⟩ : S56), (⟨(⟨#[36, 117, 55, 100, 36]⟩ : ByteArray), (⟨#[125]⟩ : ByteArray)⟩ : S56), (⟨(⟨#[36, 117, 55, 101, 36]⟩ : ByteArray), (⟨#[126]⟩ : ByteArray)⟩ : S56), (⟨(⟨#[46, 46]⟩ : ByteArray), (⟨#[58, 58]⟩ : ByteArray)⟩ : S56)] : List (S56)))) = some r := h
  clear h
  obtain ⟨y118, hy118⟩ : ∃ y_ : List (S56), y_ = (([(⟨(⟨#[36, 83, 80, 36]⟩ : ByteArray), (⟨#[64]⟩ : ByteArray)⟩ : S56), (⟨(⟨#[36, 66, 80, 36]⟩ : ByteArray), (⟨#[42]⟩ : ByteArray)⟩ : S56), (⟨(⟨#[36, 82, 70, 36]⟩ : ByteArray), (⟨#[38]⟩ : ByteArray)⟩ : S56), (⟨(⟨#[36, 76, 84, 36]⟩ : ByteArray), (⟨#[60]⟩ : ByteArray)⟩ : S56), (⟨(⟨#[36, 71, 84, 36]⟩ : ByteArray), (⟨#[62]⟩ : ByteArray)⟩ : S56), (⟨(⟨#[36, 76, 80, 36]⟩ : ByteArray), (⟨#[40]⟩ : ByteArray)⟩ : S56), (⟨(⟨#[36, 82, 80, 36]⟩ : ByteArray), (⟨#[41]⟩ : ByteArray)⟩ : S56), (⟨(⟨#[36, 67, 36]⟩ : ByteArray), (⟨#[44]⟩ : ByteArray)⟩ : S56), (⟨(⟨#[36, 117, 50, 48, 36]⟩ : ByteArray), (⟨#[32]⟩ : ByteArray)⟩ : S56), (⟨(⟨#[36, 117, 50, 50, 36]⟩ : ByteArray), (⟨#[34]⟩ : ByteArray)⟩ : S56), (⟨(⟨#[36, 117, 50, 55, 36]⟩ : ByteArray), (⟨#[39]⟩ : ByteArray)⟩ : S56), (⟨(⟨#[36, 117, 50, 98, 36]⟩ : ByteArray), (⟨#[43]⟩ : ByteArray)⟩ : S56), (⟨(⟨#[36, 117, 51, 98, 36]⟩ : ByteArray), (⟨#[59]⟩ : ByteArray)⟩ : S56), (⟨(⟨#[36, 117, 53, 98, 36]⟩ : ByteArray), (⟨#[91]⟩ : ByteArray)⟩ : S56), (⟨(⟨#[36, 117, 53, 100, 36]⟩ : ByteArray), (⟨#[93]⟩ : ByteArray)⟩ : S56), (⟨(⟨#[36, 117, 55, 98, 36]⟩ : ByteArray), (⟨#[123]⟩ : ByteArray)⟩ : S56), (⟨(⟨#[36, 117, 55, 100, 36]⟩ : ByteArray), (⟨#[125]⟩ : ByteArray)⟩ : S56), (⟨(⟨#[36, 117, 55, 101, 36]⟩ : ByteArray), (⟨#[126]⟩ : ByteArray)⟩ : S56), (⟨(⟨#[46, 46]⟩ : ByteArray), (⟨#[58, 58]⟩ : ByteArray)⟩ : S56)] : List (S56))) := ⟨_, rfl⟩
  replace H : (some y118) = some r := by first | (rw [hy118]; with_reducible exact H) | (have H2_ := (Option.bind_some _ _).symm.trans H; rw [hy118]; with_reducible exact H2_) | (have H2_ := (Option.bind_some _ _).symm.trans H; with_reducible exact H2_) | with_reducible exact H | (rw [hy118]; exact H) | exact H
  have Ny118 := Aside0.mk hy118
  clear hy118
  obtain rfl := Option.some.inj H
  go_enter Tryd.func33, Tryd.ntmps33
  go_wp2_with (first | (go_at_call 32; refine (idCut_at _ _ _ _ _ _ (by assumption) (by assumption)).mono ?_; rintro e w_ ⟨rfl, rfl⟩) | ((with_reducible refine gate_dst (N := 20) rfl ?_); refine Kd.R_lit k56 _ 56 ?hg (N := 20) ?hd (xs := ([(⟨(⟨#[36, 83, 80, 36]⟩ : ByteArray), (⟨#[64]⟩ : ByteArray)⟩ : S56), (⟨(⟨#[36, 66, 80, 36]⟩ : ByteArray), (⟨#[42]⟩ : ByteArray)⟩ : S56), (⟨(⟨#[36, 82, 70, 36]⟩ : ByteArray), (⟨#[38]⟩ : ByteArray)⟩ : S56), (⟨(⟨#[36, 76, 84, 36]⟩ : ByteArray), (⟨#[60]⟩ : ByteArray)⟩ : S56), (⟨(⟨#[36, 71, 84, 36]⟩ : ByteArray), (⟨#[62]⟩ : ByteArray)⟩ : S56), (⟨(⟨#[36, 76, 80, 36]⟩ : ByteArray), (⟨#[40]⟩ : ByteArray)⟩ : S56), (⟨(⟨#[36, 82, 80, 36]⟩ : ByteArray), (⟨#[41]⟩ : ByteArray)⟩ : S56), (⟨(⟨#[36, 67, 36]⟩ : ByteArray), (⟨#[44]⟩ : ByteArray)⟩ : S56), (⟨(⟨#[36, 117, 50, 48, 36]⟩ : ByteArray), (⟨#[32]⟩ : ByteArray)⟩ : S56), (⟨(⟨#[36, 117, 50, 50, 36]⟩ : ByteArray), (⟨#[34]⟩ : ByteArray)⟩ : S56), (⟨(⟨#[36, 117, 50, 55, 36]⟩ : ByteArray), (⟨#[39]⟩ : ByteArray)⟩ : S56), (⟨(⟨#[36, 117, 50, 98, 36]⟩ : ByteArray), (⟨#[43]⟩ : ByteArray)⟩ : S56), (⟨(⟨#[36, 117, 51, 98, 36]⟩ : ByteArray), (⟨#[59]⟩ : ByteArray)⟩ : S56), (⟨(⟨#[36, 117, 53, 98, 36]⟩ : ByteArray), (⟨#[91]⟩ : ByteArray)⟩ : S56), (⟨(⟨#[36, 117, 53, 100, 36]⟩ : ByteArray), (⟨#[93]⟩ : ByteArray)⟩ : S56), (⟨(⟨#[36, 117, 55, 98, 36]⟩ : ByteArray), (⟨#[123]⟩ : ByteArray)⟩ : S56), (⟨(⟨#[36, 117, 55, 100, 36]⟩ : ByteArray), (⟨#[125]⟩ : ByteArray)⟩ : S56), (⟨(⟨#[36, 117, 55, 101, 36]⟩ : ByteArray), (⟨#[126]⟩ : ByteArray)⟩ : S56), (⟨(⟨#[46, 46]⟩ : ByteArray), (⟨#[58, 58]⟩ : ByteArray)⟩ : S56)] : List (S56))) (inner := [.string (⟨#[36, 83, 80, 36]⟩ : ByteArray), .string (⟨#[64]⟩ : ByteArray), .string (⟨#[36, 66, 80, 36]⟩ : ByteArray), .string (⟨#[42]⟩ : ByteArray), .string (⟨#[36, 82, 70, 36]⟩ : ByteArray), .string (⟨#[38]⟩ : ByteArray), .string (⟨#[36, 76, 84, 36]⟩ : ByteArray), .string (⟨#[60]⟩ : ByteArray), .string (⟨#[36, 71, 84, 36]⟩ : ByteArray), .string (⟨#[62]⟩ : ByteArray), .string (⟨#[36, 76, 80, 36]⟩ : ByteArray), .string (⟨#[40]⟩ : ByteArray), .string (⟨#[36, 82, 80, 36]⟩ : ByteArray), .string (⟨#[41]⟩ : ByteArray), .string (⟨#[36, 67, 36]⟩ : ByteArray), .string (⟨#[44]⟩ : ByteArray), .string (⟨#[36, 117, 50, 48, 36]⟩ : ByteArray), .string (⟨#[32]⟩ : ByteArray), .string (⟨#[36, 117, 50, 50, 36]⟩ : ByteArray), .string (⟨#[34]⟩ : ByteArray), .string (⟨#[36, 117, 50, 55, 36]⟩ : ByteArray), .string (⟨#[39]⟩ : ByteArray), .string (⟨#[36, 117, 50, 98, 36]⟩ : ByteArray), .string (⟨#[43]⟩ : ByteArray), .string (⟨#[36, 117, 51, 98, 36]⟩ : ByteArray), .string (⟨#[59]⟩ : ByteArray), .string (⟨#[36, 117, 53, 98, 36]⟩ : ByteArray), .string (⟨#[91]⟩ : ByteArray), .string (⟨#[36, 117, 53, 100, 36]⟩ : ByteArray), .string (⟨#[93]⟩ : ByteArray), .string (⟨#[36, 117, 55, 98, 36]⟩ : ByteArray), .string (⟨#[123]⟩ : ByteArray), .string (⟨#[36, 117, 55, 100, 36]⟩ : ByteArray), .string (⟨#[125]⟩ : ByteArray), .string (⟨#[36, 117, 55, 101, 36]⟩ : ByteArray), .string (⟨#[126]⟩ : ByteArray), .string (⟨#[46, 46]⟩ : ByteArray), .string (⟨#[58, 58]⟩ : ByteArray)]) (ok := fun _ => True) (okp := fun _ => True) ?hr ?hp (fun _ hk => hk) trivial (Below.refl _ _) (Nat.le_refl _) (by simp) ?_; (case hd => rfl); (case hg => rfl); (case hr => first | (go_simp; done) | (go_simp; rfl)); (case hp => exact (Reps.c2 (show Kd.M k56 _ _ _ (⟨(⟨#[36, 83, 80, 36]⟩ : ByteArray), (⟨#[64]⟩ : ByteArray)⟩ : S56) [.string (⟨#[36, 83, 80, 36]⟩ : ByteArray), .string (⟨#[64]⟩ : ByteArray)] from (k56_mkM _ _ _ (⟨(⟨#[36, 83, 80, 36]⟩ : ByteArray), (⟨#[64]⟩ : ByteArray)⟩ : S56) )) (Reps.c2 (show Kd.M k56 _ _ _ (⟨(⟨#[36, 66, 80, 36]⟩ : ByteArray), (⟨#[42]⟩ : ByteArray)⟩ : S56) [.string (⟨#[36, 66, 80, 36]⟩ : ByteArray), .string (⟨#[42]⟩ : ByteArray)] from (k56_mkM _ _ _ (⟨(⟨#[36, 66, 80, 36]⟩ : ByteArray), (⟨#[42]⟩ : ByteArray)⟩ : S56) )) (Reps.c2 (show Kd.M k56 _ _ _ (⟨(⟨#[36, 82, 70, 36]⟩ : ByteArray), (⟨#[38]⟩ : ByteArray)⟩ : S56) [.string (⟨#[36, 82, 70, 36]⟩ : ByteArray), .string (⟨#[38]⟩ : ByteArray)] from (k56_mkM _ _ _ (⟨(⟨#[36, 82, 70, 36]⟩ : ByteArray), (⟨#[38]⟩ : ByteArray)⟩ : S56) )) (Reps.c2 (show Kd.M k56 _ _ _ (⟨(⟨#[36, 76, 84, 36]⟩ : ByteArray), (⟨#[60]⟩ : ByteArray)⟩ : S56) [.string (⟨#[36, 76, 84, 36]⟩ : ByteArray), .string (⟨#[60]⟩ : ByteArray)] from (k56_mkM _ _ _ (⟨(⟨#[36, 76, 84, 36]⟩ : ByteArray), (⟨#[60]⟩ : ByteArray)⟩ : S56) )) (Reps.c2 (show Kd.M k56 _ _ _ (⟨(⟨#[36, 71, 84, 36]⟩ : ByteArray), (⟨#[62]⟩ : ByteArray)⟩ : S56) [.string (⟨#[36, 71, 84, 36]⟩ : ByteArray), .string (⟨#[62]⟩ : ByteArray)] from (k56_mkM _ _ _ (⟨(⟨#[36, 71, 84, 36]⟩ : ByteArray), (⟨#[62]⟩ : ByteArray)⟩ : S56) )) (Reps.c2 (show Kd.M k56 _ _ _ (⟨(⟨#[36, 76, 80, 36]⟩ : ByteArray), (⟨#[40]⟩ : ByteArray)⟩ : S56) [.string (⟨#[36, 76, 80, 36]⟩ : ByteArray), .string (⟨#[40]⟩ : ByteArray)] from (k56_mkM _ _ _ (⟨(⟨#[36, 76, 80, 36]⟩ : ByteArray), (⟨#[40]⟩ : ByteArray)⟩ : S56) )) (Reps.c2 (show Kd.M k56 _ _ _ (⟨(⟨#[36, 82, 80, 36]⟩ : ByteArray), (⟨#[41]⟩ : ByteArray)⟩ : S56) [.string (⟨#[36, 82, 80, 36]⟩ : ByteArray), .string (⟨#[41]⟩ : ByteArray)] from (k56_mkM _ _ _ (⟨(⟨#[36, 82, 80, 36]⟩ : ByteArray), (⟨#[41]⟩ : ByteArray)⟩ : S56) )) (Reps.c2 (show Kd.M k56 _ _ _ (⟨(⟨#[36, 67, 36]⟩ : ByteArray), (⟨#[44]⟩ : ByteArray)⟩ : S56) [.string (⟨#[36, 67, 36]⟩ : ByteArray), .string (⟨#[44]⟩ : ByteArray)] from (k56_mkM _ _ _ (⟨(⟨#[36, 67, 36]⟩ : ByteArray), (⟨#[44]⟩ : ByteArray)⟩ : S56) )) (Reps.c2 (show Kd.M k56 _ _ _ (⟨(⟨#[36, 117, 50, 48, 36]⟩ : ByteArray), (⟨#[32]⟩ : ByteArray)⟩ : S56) [.string (⟨#[36, 117, 50, 48, 36]⟩ : ByteArray), .string (⟨#[32]⟩ : ByteArray)] from (k56_mkM _ _ _ (⟨(⟨#[36, 117, 50, 48, 36]⟩ : ByteArray), (⟨#[32]⟩ : ByteArray)⟩ : S56) )) (Reps.c2 (show Kd.M k56 _ _ _ (⟨(⟨#[36, 117, 50, 50, 36]⟩ : ByteArray), (⟨#[34]⟩ : ByteArray)⟩ : S56) [.string (⟨#[36, 117, 50, 50, 36]⟩ : ByteArray), .string (⟨#[34]⟩ : ByteArray)] from (k56_mkM _ _ _ (⟨(⟨#[36, 117, 50, 50, 36]⟩ : ByteArray), (⟨#[34]⟩ : ByteArray)⟩ : S56) )) (Reps.c2 (show Kd.M k56 _ _ _ (⟨(⟨#[36, 117, 50, 55, 36]⟩ : ByteArray), (⟨#[39]⟩ : ByteArray)⟩ : S56) [.string (⟨#[36, 117, 50, 55, 36]⟩ : ByteArray), .string (⟨#[39]⟩ : ByteArray)] from (k56_mkM _ _ _ (⟨(⟨#[36, 117, 50, 55, 36]⟩ : ByteArray), (⟨#[39]⟩ : ByteArray)⟩ : S56) )) (Reps.c2 (show Kd.M k56 _ _ _ (⟨(⟨#[36, 117, 50, 98, 36]⟩ : ByteArray), (⟨#[43]⟩ : ByteArray)⟩ : S56) [.string (⟨#[36, 117, 50, 98, 36]⟩ : ByteArray), .string (⟨#[43]⟩ : ByteArray)] from (k56_mkM _ _ _ (⟨(⟨#[36, 117, 50, 98, 36]⟩ : ByteArray), (⟨#[43]⟩ : ByteArray)⟩ : S56) )) (Reps.c2 (show Kd.M k56 _ _ _ (⟨(⟨#[36, 117, 51, 98, 36]⟩ : ByteArray), (⟨#[59]⟩ : ByteArray)⟩ : S56) [.string (⟨#[36, 117, 51, 98, 36]⟩ : ByteArray), .string (⟨#[59]⟩ : ByteArray)] from (k56_mkM _ _ _ (⟨(⟨#[36, 117, 51, 98, 36]⟩ : ByteArray), (⟨#[59]⟩ : ByteArray)⟩ : S56) )) (Reps.c2 (show Kd.M k56 _ _ _ (⟨(⟨#[36, 117, 53, 98, 36]⟩ : ByteArray), (⟨#[91]⟩ : ByteArray)⟩ : S56) [.string (⟨#[36, 117, 53, 98, 36]⟩ : ByteArray), .string (⟨#[91]⟩ : ByteArray)] from (k56_mkM _ _ _ (⟨(⟨#[36, 117, 53, 98, 36]⟩ : ByteArray), (⟨#[91]⟩ : ByteArray)⟩ : S56) )) (Reps.c2 (show Kd.M k56 _ _ _ (⟨(⟨#[36, 117, 53, 100, 36]⟩ : ByteArray), (⟨#[93]⟩ : ByteArray)⟩ : S56) [.string (⟨#[36, 117, 53, 100, 36]⟩ : ByteArray), .string (⟨#[93]⟩ : ByteArray)] from (k56_mkM _ _ _ (⟨(⟨#[36, 117, 53, 100, 36]⟩ : ByteArray), (⟨#[93]⟩ : ByteArray)⟩ : S56) )) (Reps.c2 (show Kd.M k56 _ _ _ (⟨(⟨#[36, 117, 55, 98, 36]⟩ : ByteArray), (⟨#[123]⟩ : ByteArray)⟩ : S56) [.string (⟨#[36, 117, 55, 98, 36]⟩ : ByteArray), .string (⟨#[123]⟩ : ByteArray)] from (k56_mkM _ _ _ (⟨(⟨#[36, 117, 55, 98, 36]⟩ : ByteArray), (⟨#[123]⟩ : ByteArray)⟩ : S56) )) (Reps.c2 (show Kd.M k56 _ _ _ (⟨(⟨#[36, 117, 55, 100, 36]⟩ : ByteArray), (⟨#[125]⟩ : ByteArray)⟩ : S56) [.string (⟨#[36, 117, 55, 100, 36]⟩ : ByteArray), .string (⟨#[125]⟩ : ByteArray)] from (k56_mkM _ _ _ (⟨(⟨#[36, 117, 55, 100, 36]⟩ : ByteArray), (⟨#[125]⟩ : ByteArray)⟩ : S56) )) (Reps.c2 (show Kd.M k56 _ _ _ (⟨(⟨#[36, 117, 55, 101, 36]⟩ : ByteArray), (⟨#[126]⟩ : ByteArray)⟩ : S56) [.string (⟨#[36, 117, 55, 101, 36]⟩ : ByteArray), .string (⟨#[126]⟩ : ByteArray)] from (k56_mkM _ _ _ (⟨(⟨#[36, 117, 55, 101, 36]⟩ : ByteArray), (⟨#[126]⟩ : ByteArray)⟩ : S56) )) (Reps.c2 (show Kd.M k56 _ _ _ (⟨(⟨#[46, 46]⟩ : ByteArray), (⟨#[58, 58]⟩ : ByteArray)⟩ : S56) [.string (⟨#[46, 46]⟩ : ByteArray), .string (⟨#[58, 58]⟩ : ByteArray)] from (k56_mkM _ _ _ (⟨(⟨#[46, 46]⟩ : ByteArray), (⟨#[58, 58]⟩ : ByteArray)⟩ : S56) )) (Reps.none _ _))))))))))))))))))))); intro v119 w1 ho2 hb hg_ hnew_; clear hg_ hnew_; (first | rw [← Ny118.out] at ho2 | (simp only [Int.reduceToNat] at ho2; rw [← Ny118.out] at ho2)); have n0_ := Aside0.mk (Kd.R_lower ho2 (below_size (by repeat (first | (with_reducible first | exact HB.out | apply below_alloc | apply pw_below_drewN | apply below_drew1) | exact HB.out)))); have n1_ := Aside0.mk (below_step (by repeat (first | (with_reducible first | exact HB.out | apply below_alloc | apply pw_below_drewN | apply below_drew1) | exact HB.out)) hb); clear HB; have HO120 := n0_; have HB := n1_; clear n0_ n1_; clear hb ho2))
  go_ret
  exact ⟨_, by first | rfl | (simp [errW_none, errW_some] <;> rfl) | (simp [*, errW_none, errW_some] <;> rfl), by (with_reducible repeat (first | apply Kd.R_alloc | apply Kd.R_drewN | apply Kd.R_drew)); exact HO120.out, by repeat (first | (with_reducible first | exact HB.out | apply below_alloc | apply pw_below_drewN | apply below_drew1) | exact HB.out)⟩

/-! ### laws_idAt: function 34 -/
def laws_idAt.f (a0 : Int) (a1 : Int) : Option (Int) := if a1 = 0 then (none) else (some (Int.tmod (wrap64 ((Int.tmod a0 a1) + a1)) a1))
set_option maxHeartbeats 8000000 in
set_option maxRecDepth 100000 in
theorem laws_idAt.calls (a0 : Int) (a1 : Int) (r : Int) (w : World) (h : laws_idAt.f a0 a1 = some r) :
    Calls Tryd.prog 34 #[.int .i64 a0, .int .i64 a1] w fun e w' => e = .returned (.int .i64 r) ∧ Drawn0 w w' := by
  have H : (if a1 = 0 then (none) else (some (Int.tmod (wrap64 ((Int.tmod a0 a1) + a1)) a1))) = some r := h
  clear h
  by_cases c3 : a1 = 0
  · rw [if_pos c3] at H
    exact absurd H (by simp)
  · rw [if_neg c3] at H
    have c3b0 : (a1 == 0) = false := beq_eq_false_iff_ne.mpr c3
    have c3b1 : (a1 != 0) = true := bne_iff_ne.mpr c3
    obtain rfl := Option.some.inj H
    go_enter Tryd.func34, Tryd.ntmps34
    go_wp2
    go_ret
    exact ⟨by first | rfl | (simp; done) | (simp [*]; done), by repeat (first | exact Drawn0.refl _ | apply Drawn0.step)⟩

/-! ### laws_FnLegacyFirst: function 9 -/
def laws_FnLegacyFirst.j0 : Nat → Int → List Int → List Int → Bool → Option (Bool)
  | 0, _, _, _, _ => none
  | k + 1, x0, x1, x2, x18 => if x18 = true then (some true) else (if 0 ≤ (mn (x1.length : Int) 1000) then (if (mn (x1.length : Int) 1000) ≤ (x1.length : Int) then ((spec_AnWord.f k (x1.take ((mn (x1.length : Int) 1000) : Int).toNat)).bind fun t122 => ((spec_LgEscapes.f).bind fun t123 => ((spec_LgEscapes.f).bind fun t126 => ((laws_idAt.f x0 (wrap64 ((t126.length : Int) - 1))).bind fun t129 => (if 0 ≤ t129 then (if t129 < (t123.length : Int) then ((laws_lgHash.f x2).bind fun bt132 => (if bt132.2 = true then (if 1 + ((rd_T56 t123 t129).f0).size ≤ 9223372036854775807 then (if ((⟨#[95]⟩ : ByteArray) ++ ((rd_T56 t123 t129).f0)).size + t122.size ≤ 9223372036854775807 then (if ((rd_T56 t123 t129).f1).size + t122.size ≤ 9223372036854775807 then ((laws_lgTold.f k (([((⟨#[95]⟩ : ByteArray) ++ ((rd_T56 t123 t129).f0)) ++ t122] : List ByteArray)) bt132.1 (((rd_T56 t123 t129).f1) ++ t122)).bind fun t137 => (some t137)) else (none)) else (none)) else (none)) else (some true))) else (none)) else (none)))))) else (none)) else (none))
def laws_FnLegacyFirst.f (k : Nat) (a0 : Int) (l1 : List Int) (l2 : List Int) : Option (Bool) := if (l1.length : Int) > 2147483647 then (laws_FnLegacyFirst.j0 k a0 l1 l2 true) else (laws_FnLegacyFirst.j0 k a0 l1 l2 (decide ((l2.length : Int) > 2147483647)))
theorem laws_FnLegacyFirst.mono_l : ∀ k, (∀ y0 y1 y2 y3, LeO (laws_FnLegacyFirst.j0 k y0 y1 y2 y3) (laws_FnLegacyFirst.j0 (k + 1) y0 y1 y2 y3))
  | 0 => fun _ _ _ _ r h => by simp [laws_FnLegacyFirst.j0] at h
  | k + 1 => by
    have ih0 := laws_FnLegacyFirst.mono_l k
    · intro y0 y1 y2 y3
      unfold laws_FnLegacyFirst.j0
      repeat' first
      | (with_reducible exact ih0 _ _ _ _)
      | (with_reducible exact laws_lgTold.mono _ _ _ _)
      | (with_reducible exact spec_AnWord.mono _ _)
      | (with_reducible exact LeO.refl _)
      | (with_reducible exact LeO.none _)
      | (with_reducible refine LeO.ite ?_ ?_)
      | (with_reducible refine LeO.bind ?_ (fun _ => ?_))
      | exact ih0 _ _ _ _
      | exact laws_lgTold.mono _ _ _ _
      | exact spec_AnWord.mono _ _
      | exact LeO.none _
      | refine LeO.ite ?_ ?_
      | refine LeO.bind ?_ (fun _ => ?_)
theorem laws_FnLegacyFirst.mono : ∀ a0 a1 a2 k, LeO (laws_FnLegacyFirst.f k a0 a1 a2) (laws_FnLegacyFirst.f (k + 1) a0 a1 a2) := by
  intro a0 a1 a2 k
  have ih0 := laws_FnLegacyFirst.mono_l k
  unfold laws_FnLegacyFirst.f
  repeat' first
      | (with_reducible exact ih0 _ _ _ _)
      | (with_reducible exact laws_lgTold.mono _ _ _ _)
      | (with_reducible exact spec_AnWord.mono _ _)
      | (with_reducible exact LeO.refl _)
      | (with_reducible exact LeO.none _)
      | (with_reducible refine LeO.ite ?_ ?_)
      | (with_reducible refine LeO.bind ?_ (fun _ => ?_))
      | exact ih0 _ _ _ _
      | exact laws_lgTold.mono _ _ _ _
      | exact spec_AnWord.mono _ _
      | exact LeO.none _
      | refine LeO.ite ?_ ?_
      | refine LeO.bind ?_ (fun _ => ?_)
set_option maxHeartbeats 8000000 in
set_option maxRecDepth 100000 in
theorem laws_FnLegacyFirst.calls (k : Nat) (a0 : Int) (A1 : Option Addr) (c1 : Nat) (l1 : List Int) (A2 : Option Addr) (c2 : Nat) (l2 : List Int) (r : Bool) (w : World) (hr1 : Kd.C (Kd.int .u8) w A1 l1.length l1) (hc1 : l1.length ≤ c1) (hr2 : Kd.C (Kd.int .u8) w A2 l2.length l2) (hc2 : l2.length ≤ c2) (hT_ : StrIs w) (h : laws_FnLegacyFirst.f k a0 l1 l2 = some r) :
    Calls Tryd.prog 9 #[.int .i64 a0, .slice A1 l1.length c1, .slice A2 l2.length c2] w fun e w' => e = .returned (.bool r) ∧ Below w.heap.size w w' := by
  have hu56 := Tryd.underlying56
  have HR1 := Aside0.mk hr1
  have HC1 := Aside0.mk hc1
  clear hr1 hc1
  have HR2 := Aside0.mk hr2
  have HC2 := Aside0.mk hc2
  clear hr2 hc2
  have HB := Aside0.mk (Below.refl w.heap.size w)
  have H : (if (l1.length : Int) > 2147483647 then (laws_FnLegacyFirst.j0 k a0 l1 l2 true) else (laws_FnLegacyFirst.j0 k a0 l1 l2 (decide ((l2.length : Int) > 2147483647)))) = some r := h
  clear h
  have HC4 := Aside0.mk H
  clear H
  go_enter Tryd.func9, Tryd.ntmps9
  go_upto_region 1 with (fail)
  go_cut [18] (fun v18 wc => ∃ (kq : Nat) (x18_3 : Bool), v18 = .bool x18_3 ∧ Aside0 (laws_FnLegacyFirst.j0 kq a0 l1 l2 x18_3 = some r) ∧ Aside0 (kq ≤ k) ∧ Aside0 (Below w.heap.size w wc))
  case first =>
    have H := HC4.out
    clear HC4
    by_cases c5 : (l1.length : Int) > 2147483647
    · rw [if_pos c5] at H
      have c5b0 : decide (2147483647 < (l1.length : Int)) = true := decide_eq_true c5
      have c5b1 : decide (2147483647 < l1.length) = true := decide_eq_true (by omega)
      clear c5
      (first | rw [c5b0] | (simp only [i64_w, i32_w]; rw [c5b0]) | rw [c5b1] | skip)
      have H' := Aside0.mk H
      clear H
      go_wp2
      go_meet
      case rel => exact ⟨_, (true), (by first | rfl | (simp; done) | (simp [*]; done)), H', ⟨by first | omega | exact Nat.le_refl _⟩, ⟨by repeat (first | (with_reducible first | exact HB.out | apply below_alloc | apply pw_below_drewN | apply below_drew1) | exact HB.out)⟩⟩
    · rw [if_neg c5] at H
      have c5b0 : decide (2147483647 < (l1.length : Int)) = false := decide_eq_false c5
      have c5b1 : decide (2147483647 < l1.length) = false := decide_eq_false (by omega)
      clear c5
      (first | rw [c5b0] | (simp only [i64_w, i32_w]; rw [c5b0]) | rw [c5b1] | skip)
      have H' := Aside0.mk H
      clear H
      go_wp2
      go_meet
      case rel => exact ⟨_, (decide ((l2.length : Int) > 2147483647)), (by first | rfl | (simp; done) | (simp [*]; done)), H', ⟨by first | omega | exact Nat.le_refl _⟩, ⟨by repeat (first | (with_reducible first | exact HB.out | apply below_alloc | apply pw_below_drewN | apply below_drew1) | exact HB.out)⟩⟩
  case rest =>
    clear HC4
    try clear c1
    try clear c2
    try clear p2
    try clear c5
    try clear c5b0
    try clear c5b1
    obtain ⟨kq, x18_3, rfl, HA, HJ3, HB⟩ := hcut
    cases kq with
    | zero => exact absurd HA.out (by simp [laws_FnLegacyFirst.j0])
    | succ kj3 =>
      have H := HA.out
      clear HA
      simp only [laws_FnLegacyFirst.j0] at H
      by_cases c6 : x18_3 = true
      · subst c6
        have H1 : (some true) = some r := by rw [if_pos rfl] at H; exact H
        clear H
        have H := H1
        clear H1
        obtain rfl := Option.some.inj H
        go_wp2
        go_ret
        exact ⟨by first | rfl | (simp [errW_none, errW_some] <;> rfl) | (simp [*, errW_none, errW_some] <;> rfl), by repeat (first | (with_reducible first | exact HB.out | apply below_alloc | apply pw_below_drewN | apply below_drew1) | exact HB.out)⟩
      · replace c6 := Bool.eq_false_iff.mpr c6
        subst c6
        have H1 : (if 0 ≤ (mn (l1.length : Int) 1000) then (if (mn (l1.length : Int) 1000) ≤ (l1.length : Int) then ((spec_AnWord.f kj3 (l1.take ((mn (l1.length : Int) 1000) : Int).toNat)).bind fun t122 => ((spec_LgEscapes.f).bind fun t123 => ((spec_LgEscapes.f).bind fun t126 => ((laws_idAt.f a0 (wrap64 ((t126.length : Int) - 1))).bind fun t129 => (if 0 ≤ t129 then (if t129 < (t123.length : Int) then ((laws_lgHash.f l2).bind fun bt132 => (if bt132.2 = true then (if 1 + ((rd_T56 t123 t129).f0).size ≤ 9223372036854775807 then (if ((⟨#[95]⟩ : ByteArray) ++ ((rd_T56 t123 t129).f0)).size + t122.size ≤ 9223372036854775807 then (if ((rd_T56 t123 t129).f1).size + t122.size ≤ 9223372036854775807 then ((laws_lgTold.f kj3 (([((⟨#[95]⟩ : ByteArray) ++ ((rd_T56 t123 t129).f0)) ++ t122] : List ByteArray)) bt132.1 (((rd_T56 t123 t129).f1) ++ t122)).bind fun t137 => (some t137)) else (none)) else (none)) else (none)) else (some true))) else (none)) else (none)))))) else (none)) else (none)) = some r := by rw [if_neg (show ¬ (false = true) by decide)] at H; exact H
        clear H
        have H := H1
        clear H1
        obtain ⟨ji7, hji7⟩ : ∃ j_ : Int, (mn (l1.length : Int) 1000) = j_ := ⟨_, rfl⟩
        replace H : (if 0 ≤ (ji7) then (if (ji7) ≤ (l1.length : Int) then ((spec_AnWord.f kj3 (l1.take ((ji7) : Int).toNat)).bind fun t122 => ((spec_LgEscapes.f).bind fun t123 => ((spec_LgEscapes.f).bind fun t126 => ((laws_idAt.f a0 (wrap64 ((t126.length : Int) - 1))).bind fun t129 => (if 0 ≤ t129 then (if t129 < (t123.length : Int) then ((laws_lgHash.f l2).bind fun bt132 => (if bt132.2 = true then (if 1 + ((rd_T56 t123 t129).f0).size ≤ 9223372036854775807 then (if ((⟨#[95]⟩ : ByteArray) ++ ((rd_T56 t123 t129).f0)).size + t122.size ≤ 9223372036854775807 then (if ((rd_T56 t123 t129).f1).size + t122.size ≤ 9223372036854775807 then ((laws_lgTold.f kj3 (([((⟨#[95]⟩ : ByteArray) ++ ((rd_T56 t123 t129).f0)) ++ t122] : List ByteArray)) bt132.1 (((rd_T56 t123 t129).f1) ++ t122)).bind fun t137 => (some t137)) else (none)) else (none)) else (none)) else (some true))) else (none)) else (none)))))) else (none)) else (none)) = some r := by first | (rw [hji7] at H; exact H) | (simp only [hji7] at H ⊢; exact H)
        have hji7_ : (if 1000 < (l1.length : Int) then 1000 else (l1.length : Int)) = ji7 := hji7
        by_cases c8 : 0 ≤ (ji7)
        · rw [if_pos c8] at H
          have c8b0 := eq_true c8
          have c8b1 : decide (0 ≤ (ji7)) = true := decide_eq_true c8
          clear c8
          by_cases c9 : (ji7) ≤ (l1.length : Int)
          · rw [if_pos c9] at H
            have c9b0 := eq_true c9
            have c9b1 : decide ((ji7) ≤ (l1.length : Int)) = true := decide_eq_true c9
            clear c9
            replace H := Option.bind_eq_some_iff.mp H
            obtain ⟨t122, A100, H⟩ := H
            replace H : ((spec_LgEscapes.f).bind fun t123 => ((spec_LgEscapes.f).bind fun t126 => ((laws_idAt.f a0 (wrap64 ((t126.length : Int) - 1))).bind fun t129 => (if 0 ≤ t129 then (if t129 < (t123.length : Int) then ((laws_lgHash.f l2).bind fun bt132 => (if bt132.2 = true then (if 1 + ((rd_T56 t123 t129).f0).size ≤ 9223372036854775807 then (if ((⟨#[95]⟩ : ByteArray) ++ ((rd_T56 t123 t129).f0)).size + t122.size ≤ 9223372036854775807 then (if ((rd_T56 t123 t129).f1).size + t122.size ≤ 9223372036854775807 then ((laws_lgTold.f kj3 (([((⟨#[95]⟩ : ByteArray) ++ ((rd_T56 t123 t129).f0)) ++ t122] : List ByteArray)) bt132.1 (((rd_T56 t123 t129).f1) ++ t122)).bind fun t137 => (some t137)) else (none)) else (none)) else (none)) else (some true))) else (none)) else (none))))) = some r := H
            have A10 := Aside0.mk A100
            clear A100
            replace H := Option.bind_eq_some_iff.mp H
            obtain ⟨t123, A110, H⟩ := H
            replace H : ((spec_LgEscapes.f).bind fun t126 => ((laws_idAt.f a0 (wrap64 ((t126.length : Int) - 1))).bind fun t129 => (if 0 ≤ t129 then (if t129 < (t123.length : Int) then ((laws_lgHash.f l2).bind fun bt132 => (if bt132.2 = true then (if 1 + ((rd_T56 t123 t129).f0).size ≤ 9223372036854775807 then (if ((⟨#[95]⟩ : ByteArray) ++ ((rd_T56 t123 t129).f0)).size + t122.size ≤ 9223372036854775807 then (if ((rd_T56 t123 t129).f1).size + t122.size ≤ 9223372036854775807 then ((laws_lgTold.f kj3 (([((⟨#[95]⟩ : ByteArray) ++ ((rd_T56 t123 t129).f0)) ++ t122] : List ByteArray)) bt132.1 (((rd_T56 t123 t129).f1) ++ t122)).bind fun t137 => (some t137)) else (none)) else (none)) else (none)) else (some true))) else (none)) else (none)))) = some r := H
            have A11 := Aside0.mk A110
            clear A110
            replace H := Option.bind_eq_some_iff.mp H
            obtain ⟨t126, A120, H⟩ := H
            replace H : ((laws_idAt.f a0 (wrap64 ((t126.length : Int) - 1))).bind fun t129 => (if 0 ≤ t129 then (if t129 < (t123.length : Int) then ((laws_lgHash.f l2).bind fun bt132 => (if bt132.2 = true then (if 1 + ((rd_T56 t123 t129).f0).size ≤ 9223372036854775807 then (if ((⟨#[95]⟩ : ByteArray) ++ ((rd_T56 t123 t129).f0)).size + t122.size ≤ 9223372036854775807 then (if ((rd_T56 t123 t129).f1).size + t122.size ≤ 9223372036854775807 then ((laws_lgTold.f kj3 (([((⟨#[95]⟩ : ByteArray) ++ ((rd_T56 t123 t129).f0)) ++ t122] : List ByteArray)) bt132.1 (((rd_T56 t123 t129).f1) ++ t122)).bind fun t137 => (some t137)) else (none)) else (none)) else (none)) else (some true))) else (none)) else (none))) = some r := H
            have A12 := Aside0.mk A120
            clear A120
            replace H := Option.bind_eq_some_iff.mp H
            obtain ⟨t129, A130, H⟩ := H
            replace H : (if 0 ≤ t129 then (if t129 < (t123.length : Int) then ((laws_lgHash.f l2).bind fun bt132 => (if bt132.2 = true then (if 1 + ((rd_T56 t123 t129).f0).size ≤ 9223372036854775807 then (if ((⟨#[95]⟩ : ByteArray) ++ ((rd_T56 t123 t129).f0)).size + t122.size ≤ 9223372036854775807 then (if ((rd_T56 t123 t129).f1).size + t122.size ≤ 9223372036854775807 then ((laws_lgTold.f kj3 (([((⟨#[95]⟩ : ByteArray) ++ ((rd_T56 t123 t129).f0)) ++ t122] : List ByteArray)) bt132.1 (((rd_T56 t123 t129).f1) ++ t122)).bind fun t137 => (some t137)) else (none)) else (none)) else (none)) else (some true))) else (none)) else (none)) = some r := H
            have A13 := Aside0.mk A130
            clear A130
            by_cases c14 : 0 ≤ t129
            · rw [if_pos c14] at H
              have c14b0 : decide (0 ≤ t129) = true := decide_eq_true c14
              clear c14
              by_cases c15 : t129 < (t123.length : Int)
              · rw [if_pos c15] at H
                have c15b0 : decide (t129 < (t123.length : Int)) = true := decide_eq_true c15
                clear c15
                replace H := Option.bind_eq_some_iff.mp H
                obtain ⟨⟨t132, t133⟩, A160, H⟩ := H
                replace H : (if t133 = true then (if 1 + ((rd_T56 t123 t129).f0).size ≤ 9223372036854775807 then (if ((⟨#[95]⟩ : ByteArray) ++ ((rd_T56 t123 t129).f0)).size + t122.size ≤ 9223372036854775807 then (if ((rd_T56 t123 t129).f1).size + t122.size ≤ 9223372036854775807 then ((laws_lgTold.f kj3 (([((⟨#[95]⟩ : ByteArray) ++ ((rd_T56 t123 t129).f0)) ++ t122] : List ByteArray)) t132 (((rd_T56 t123 t129).f1) ++ t122)).bind fun t137 => (some t137)) else (none)) else (none)) else (none)) else (some true)) = some r := H
                have A16 := Aside0.mk A160
                clear A160
                by_cases c17 : t133 = true
                · subst c17
                  have H1 : (if 1 + ((rd_T56 t123 t129).f0).size ≤ 9223372036854775807 then (if ((⟨#[95]⟩ : ByteArray) ++ ((rd_T56 t123 t129).f0)).size + t122.size ≤ 9223372036854775807 then (if ((rd_T56 t123 t129).f1).size + t122.size ≤ 9223372036854775807 then ((laws_lgTold.f kj3 (([((⟨#[95]⟩ : ByteArray) ++ ((rd_T56 t123 t129).f0)) ++ t122] : List ByteArray)) t132 (((rd_T56 t123 t129).f1) ++ t122)).bind fun t137 => (some t137)) else (none)) else (none)) else (none)) = some r := by rw [if_pos rfl] at H; exact H
                  clear H
                  have H := H1
                  clear H1
                  by_cases c18 : 1 + ((rd_T56 t123 t129).f0).size ≤ 9223372036854775807
                  · rw [if_pos c18] at H
                    have c18b0 := eq_true c18
                    have c18b1 : decide (1 + ((rd_T56 t123 t129).f0).size ≤ 9223372036854775807) = true := decide_eq_true c18
                    try have c18b2 : (9223372036854775807 < 1 + ((rd_T56 t123 t129).f0).size) = False := eq_false (Nat.not_lt.2 c18)
                    by_cases c19 : ((⟨#[95]⟩ : ByteArray) ++ ((rd_T56 t123 t129).f0)).size + t122.size ≤ 9223372036854775807
                    · rw [if_pos c19] at H
                      have c19b0 := eq_true c19
                      have c19b1 : decide (((⟨#[95]⟩ : ByteArray) ++ ((rd_T56 t123 t129).f0)).size + t122.size ≤ 9223372036854775807) = true := decide_eq_true c19
                      try have c19b2 : (9223372036854775807 < ((⟨#[95]⟩ : ByteArray) ++ ((rd_T56 t123 t129).f0)).size + t122.size) = False := eq_false (Nat.not_lt.2 c19)
                      try have c19b4 : (9223372036854775807 < 1 + ((rd_T56 t123 t129).f0).size + t122.size) = False := eq_false (by have h_ := c19; (repeat rw [ByteArray.size_append] at h_); exact Nat.not_lt.2 h_)
                      obtain ⟨y134, hy134⟩ : ∃ y_ : List ByteArray, y_ = (([((⟨#[95]⟩ : ByteArray) ++ ((rd_T56 t123 t129).f0)) ++ t122] : List ByteArray)) := ⟨_, rfl⟩
                      replace H : (if ((rd_T56 t123 t129).f1).size + t122.size ≤ 9223372036854775807 then ((laws_lgTold.f kj3 y134 t132 (((rd_T56 t123 t129).f1) ++ t122)).bind fun t137 => (some t137)) else (none)) = some r := by first | (rw [hy134]; with_reducible exact H) | (have H2_ := (Option.bind_some _ _).symm.trans H; rw [hy134]; with_reducible exact H2_) | (have H2_ := (Option.bind_some _ _).symm.trans H; with_reducible exact H2_) | with_reducible exact H | (rw [hy134]; exact H) | exact H
                      have Ny134 := Aside0.mk hy134
                      clear hy134
                      by_cases c20 : ((rd_T56 t123 t129).f1).size + t122.size ≤ 9223372036854775807
                      · rw [if_pos c20] at H
                        have c20b0 := eq_true c20
                        have c20b1 : decide (((rd_T56 t123 t129).f1).size + t122.size ≤ 9223372036854775807) = true := decide_eq_true c20
                        try have c20b2 : (9223372036854775807 < ((rd_T56 t123 t129).f1).size + t122.size) = False := eq_false (Nat.not_lt.2 c20)
                        replace H := Option.bind_eq_some_iff.mp H
                        obtain ⟨t137, A210, H⟩ := H
                        replace H : (some t137) = some r := H
                        have A21 := Aside0.mk A210
                        clear A210
                        obtain rfl := Option.some.inj H
                        obtain ⟨i022, hi022, _, hsz22, _⟩ := info_parts info5
                        obtain ⟨hcut22, hA22, hC22⟩ := print_take_of (P := Tryd.prog) (Value.int .u8) 0 27 5 .i64 Tryd.underlying27 hi022 hsz22 A1 c1 l1 (ji7) (of_decide_eq_true (by first | (with_reducible assumption) | assumption)) (of_decide_eq_true (by first | (with_reducible assumption) | assumption)) HC1.out
                        have HR121 := Aside0.mk (Kd.C_of_reads (h1 := fun _ => rfl) (hA22 _ (Kd.reads_of_C HR1.out)))
                        have HC121 := Aside0.mk hC22
                        clear hA22 hC22 hi022 hsz22
                        go_wp2_with (first | (go_at_call 32; refine (idCut_at _ _ _ _ _ _ (by assumption) (by assumption)).mono ?_; rintro e w_ ⟨rfl, rfl⟩) | ((with_reducible refine gate_callee (f := 31) rfl ?_); refine goesL_ (some 21) rfl rfl Tryd.func31 (by kernel_rfl) rfl #[.slice A1 (l1.take ((ji7) : Int).toNat).length c1] rfl (by (try simp only [List.map_toArray, List.map_cons, List.map_nil]); first | done | (rw [show (l1.take ((ji7) : Int).toNat).length = (ji7).toNat from (by rw [List.length_take]; have h_ : ((ji7) : Int) ≤ (l1.length : Int) := of_decide_eq_true (by first | (with_reducible assumption) | assumption); omega)] <;> rfl) | (simp only [hji7]; rfl) | rfl | (simp only [List.length_drop, List.length_take]; rfl)) ?_; (with_reducible refine (spec_AnWord.calls kj3 _ _ (l1.take ((ji7) : Int).toNat) t122 _ ?side1 ?side2 A10.out).mono ?_); (case side1 => repeat (first | exact (Kd.C_below HR121.out HB.out) | (with_reducible refine Kd.C_alloc ?_ _) | (with_reducible refine Kd.C_drewN ?_ _) | (with_reducible refine Kd.C_drew ?_))); (case side2 => exact HC121.out); rintro e w23 ⟨rfl, hb⟩; refine ⟨_, rfl, ?_⟩; have n0_ := Aside0.mk (below_step (by repeat (first | (with_reducible first | exact HB.out | apply below_alloc | apply pw_below_drewN | apply below_drew1) | exact HB.out)) hb); clear HB; have HB := n0_; clear n0_; (try clear hb); (try clear hb2); (try clear hk); (try clear hi)) | ((with_reducible refine gate_callee (f := 33) rfl ?_); refine goesL_ (some 22) rfl rfl Tryd.func33 (by kernel_rfl) rfl #[] rfl (by (try simp only [List.map_toArray, List.map_cons, List.map_nil]); first | done | rfl | (simp only [List.length_drop, List.length_take]; rfl)) ?_; (with_reducible refine (spec_LgEscapes.calls  t123 _ A11.out).mono ?_); rintro e w24 ⟨v124, rfl, ho0, hb⟩; refine ⟨_, rfl, ?_⟩; have n0_ := Aside0.mk (Kd.R_lower ho0 (below_size (by repeat (first | (with_reducible first | exact HB.out | apply below_alloc | apply pw_below_drewN | apply below_drew1) | exact HB.out)))); have n1_ := Aside0.mk (below_step (by repeat (first | (with_reducible first | exact HB.out | apply below_alloc | apply pw_below_drewN | apply below_drew1) | exact HB.out)) hb); clear HB; have HO125 := n0_; have HB := n1_; clear n0_ n1_; (try clear hb); (try clear hb2); (try clear hk); (try clear hi); (try clear ho0)) | ((with_reducible refine gate_callee (f := 33) rfl ?_); refine goesL_ (some 24) rfl rfl Tryd.func33 (by kernel_rfl) rfl #[] rfl (by (try simp only [List.map_toArray, List.map_cons, List.map_nil]); first | done | rfl | (simp only [List.length_drop, List.length_take]; rfl)) ?_; (with_reducible refine (spec_LgEscapes.calls  t126 _ A12.out).mono ?_); rintro e w25 ⟨v127, rfl, ho0, hb⟩; refine ⟨_, rfl, ?_⟩; have n0_ := Aside0.mk (Kd.R_elder' (by (with_reducible repeat (first | apply Kd.R_alloc | apply Kd.R_drewN | apply Kd.R_drew)); exact HO125.out) (Kd.R_base ho0) hb); have n1_ := Aside0.mk (Kd.R_lower (Kd.R_new' ho0 (Kd.R_lt (by (with_reducible repeat (first | apply Kd.R_alloc | apply Kd.R_drewN | apply Kd.R_drew)); exact HO125.out))) (below_size (by repeat (first | (with_reducible first | exact HB.out | apply below_alloc | apply pw_below_drewN | apply below_drew1) | exact HB.out)))); have n2_ := Aside0.mk (below_step (by repeat (first | (with_reducible first | exact HB.out | apply below_alloc | apply pw_below_drewN | apply below_drew1) | exact HB.out)) hb); clear HO125; clear HB; have HO125 := n0_; have HO128 := n1_; have HB := n2_; clear n0_ n1_ n2_; (try clear hb); (try clear hb2); (try clear hk); (try clear hi); (try clear ho0); obtain ⟨Ao26, co26, eo26⟩ := Kd.R_slice HO128.out; subst eo26) | ((with_reducible refine gate_callee (f := 34) rfl ?_); refine goesL_ (some 27) rfl rfl Tryd.func34 (by kernel_rfl) rfl #[.int .i64 a0, .int .i64 (wrap64 ((t126.length : Int) - 1))] rfl (by (try simp only [List.map_toArray, List.map_cons, List.map_nil]); first | done | rfl | (simp only [List.length_drop, List.length_take]; rfl)) ?_; (with_reducible refine (laws_idAt.calls a0 (wrap64 ((t126.length : Int) - 1)) t129 _ A13.out).mono ?_); rintro e w' ⟨rfl, ⟨nd, rfl⟩⟩; refine ⟨_, rfl, ?_⟩; (try (rw [drewN_self w25]; generalize hq_ : World.drewN w25 _ = w25; have n0_ : Aside0 (Kd.R k56 56 w25 w.heap.size (fun k_ => some k_ ≠ (.slice Ao26 t126.length co26 : Value).ownBlock) v124 t123) := ⟨by rw [← hq_]; exact (by (with_reducible repeat (first | apply Kd.R_alloc | apply Kd.R_drewN | apply Kd.R_drew)); exact Kd.R_mono HO125.out (fun _ hk => hk.2))⟩; have n1_ : Aside0 (Kd.R k56 56 w25 w.heap.size (fun k_ => some k_ ≠ (v124 : Value).ownBlock) (.slice Ao26 t126.length co26) t126) := ⟨by rw [← hq_]; exact (by (with_reducible repeat (first | apply Kd.R_alloc | apply Kd.R_drewN | apply Kd.R_drew)); exact Kd.R_mono HO128.out (fun _ hk => hk.2))⟩; have n2_ : Aside0 (Below w.heap.size w w25) := ⟨by rw [← hq_]; exact (by repeat (first | (with_reducible first | exact HB.out | apply below_alloc | apply pw_below_drewN | apply below_drew1) | exact HB.out))⟩; clear HO125 HO128 HB hq_; have HO125 := n0_; have HO128 := n1_; have HB := n2_; clear n0_ n1_ n2_)); obtain ⟨Ao27, co27, eo27⟩ := Kd.R_slice HO125.out; subst eo27; have p130 : 0 ≤ (t129 : Int) := of_decide_eq_true (by first | (with_reducible assumption) | assumption); have q130 : t129 < (t123.length : Int) := of_decide_eq_true (by first | (with_reducible assumption) | assumption); obtain ⟨ad130, e130, hx130_0, hx130_1⟩ := at_T56 (Kd.R_reads' HO125.out).2.2 t129 p130 q130; cases e130; replace p130 := eq_true p130; replace q130 := eq_true q130) | ((with_reducible refine gate_dst (N := 8) rfl ?_); (try (refine gate_guard (by rfl) ?_; dsimp only)); refine box_event ?hg (N := 8) ?hd (cs := #[.string (⟨#[]⟩ : ByteArray), .string (⟨#[]⟩ : ByteArray)]) (t := 56) ?hr ?_; (case hd => rfl); (case hg => rfl); (case hr => first | (go_simp; done) | (go_simp; rfl)); intro gb131 hg w28 hbox hb; have n0_ := Aside0.mk (Kd.R_below (Kd.R_elderB (by (with_reducible repeat (first | apply Kd.R_alloc | apply Kd.R_drewN | apply Kd.R_drew)); exact HO125.out) gb131 (Nat.le_of_eq hg.symm)) hb); have n1_ := Aside0.mk (Kd.R_below (Kd.R_elderB (by (with_reducible repeat (first | apply Kd.R_alloc | apply Kd.R_drewN | apply Kd.R_drew)); exact HO128.out) gb131 (Nat.le_of_eq hg.symm)) hb); have n2_ := Aside0.mk (below_step (by repeat (first | (with_reducible first | exact HB.out | apply below_alloc | apply pw_below_drewN | apply below_drew1) | exact HB.out)) hb); have n3_ := Aside0.mk (hbox); have n4_ := Aside0.mk ((by rw [hg]; exact (below_size (by repeat (first | (with_reducible first | exact HB.out | apply below_alloc | apply pw_below_drewN | apply below_drew1) | exact HB.out))) : w.heap.size ≤ gb131)); have n5_ := Aside0.mk ((by rw [hg]; exact (below_size (by repeat (first | (with_reducible first | exact HB.out | apply below_alloc | apply pw_below_drewN | apply below_drew1) | exact HB.out))) : w.heap.size ≤ gb131)); clear HO125; clear HO128; clear HB; have HO125 := n0_; have HO128 := n1_; have HB := n2_; have BK131 := n3_; have GW131 := n4_; have GE131 := n5_; clear n0_ n1_ n2_ n3_ n4_ n5_; clear hb hbox hg; have hcz29_0 : w28.cell? ⟨gb131, 0, none⟩ = some (.string (⟨#[]⟩ : ByteArray)) := (blk_cell BK131.out 0).trans rfl; have hcz29_1 : w28.cell? ⟨gb131, 1, none⟩ = some (.string (⟨#[]⟩ : ByteArray)) := (blk_cell BK131.out 1).trans rfl; have hfz29_0 := blk_frozen BK131.out 0; have hfz29_1 := blk_frozen BK131.out 1) | ((with_reducible refine gate_callee (f := 28) rfl ?_); refine goesL_ (some 32) rfl rfl Tryd.func28 (by kernel_rfl) rfl #[.slice A2 l2.length c2] rfl (by (try simp only [List.map_toArray, List.map_cons, List.map_nil]); first | done | rfl | (simp only [List.length_drop, List.length_take]; rfl)) ?_; (with_reducible refine (laws_lgHash.calls _ _ l2 t132 true _ ?side1 ?side2 A16.out).mono ?_); (case side1 => exact Kd.C_below HR2.out (by repeat (first | (with_reducible first | exact HB.out | apply below_alloc | apply pw_below_drewN | apply below_drew1 | refine below_set ?_ GE131.out) | exact HB.out))); (case side2 => exact HC2.out); rintro e w30 ⟨rfl, hb⟩; refine ⟨_, rfl, ?_⟩; have n0_ := Aside0.mk (Kd.R_below (by (with_reducible repeat (first | apply Kd.R_alloc | apply Kd.R_drewN | apply Kd.R_drew)); exact (Kd.R_mono (Kd.R_far (p := ⟨gb131, 1, none⟩) (Kd.R_far (p := ⟨gb131, 0, none⟩) (Kd.R_mono HO125.out (fun k_ hk => (⟨hk, hk.2⟩ : _ ∧ k_ ≠ gb131))) (fun _ hk => hk.2) (.string ((rd_T56 t123 t129).f0))) (fun _ hk => hk.2) (.string ((rd_T56 t123 t129).f1))) (fun _ h_ => h_.1))) hb); have n1_ := Aside0.mk (Kd.R_below (by (with_reducible repeat (first | apply Kd.R_alloc | apply Kd.R_drewN | apply Kd.R_drew)); exact (Kd.R_mono (Kd.R_far (p := ⟨gb131, 1, none⟩) (Kd.R_far (p := ⟨gb131, 0, none⟩) (Kd.R_mono HO128.out (fun k_ hk => (⟨hk, hk.2⟩ : _ ∧ k_ ≠ gb131))) (fun _ hk => hk.2) (.string ((rd_T56 t123 t129).f0))) (fun _ hk => hk.2) (.string ((rd_T56 t123 t129).f1))) (fun _ h_ => h_.1))) hb); have n2_ := Aside0.mk (blk_below (g := gb131) (o := .cells #[.string ((rd_T56 t123 t129).f0), .string ((rd_T56 t123 t129).f1)] 56 (0, 0)) (by (with_reducible repeat (first | refine blk_drewN ?_ _ | refine blk_drew ?_ | refine blk_alloc ?_ _)); refine blk_put (cs := #[.string ((rd_T56 t123 t129).f0), .string (⟨#[]⟩ : ByteArray)]) ?_ 1 _ rfl; (with_reducible repeat (first | refine blk_drewN ?_ _ | refine blk_drew ?_ | refine blk_alloc ?_ _)); refine blk_put (cs := #[.string (⟨#[]⟩ : ByteArray), .string (⟨#[]⟩ : ByteArray)]) ?_ 0 _ rfl; (with_reducible repeat (first | refine blk_drewN ?_ _ | refine blk_drew ?_ | refine blk_alloc ?_ _)); exact BK131.out) hb); have n3_ := Aside0.mk (below_step (by repeat (first | (with_reducible first | exact HB.out | apply below_alloc | apply pw_below_drewN | apply below_drew1 | refine below_set ?_ GE131.out) | exact HB.out)) hb); clear HO125; clear HO128; clear BK131; clear HB; have HO125 := n0_; have HO128 := n1_; have BK131 := n2_; have HB := n3_; clear n0_ n1_ n2_ n3_; (try clear hb); (try clear hb2); (try clear hk); (try clear hi); have hcz31_0 : w30.cell? ⟨gb131, 0, none⟩ = some (.string ((rd_T56 t123 t129).f0)) := (blk_cell BK131.out 0).trans rfl; have hcz31_1 : w30.cell? ⟨gb131, 1, none⟩ = some (.string ((rd_T56 t123 t129).f1)) := (blk_cell BK131.out 1).trans rfl; have hfz31_0 := blk_frozen BK131.out 0; have hfz31_1 := blk_frozen BK131.out 1) | ((with_reducible refine gate_dst (N := 43) rfl ?_); (try (refine gate_guard (by rfl) ?_; dsimp only)); refine Kd.R_lit Kd.string _ 9 ?hg (N := 43) ?hd (xs := ([((⟨#[95]⟩ : ByteArray) ++ ((rd_T56 t123 t129).f0)) ++ t122] : List ByteArray)) (inner := [.string (((⟨#[95]⟩ : ByteArray) ++ ((rd_T56 t123 t129).f0)) ++ t122)]) (ok := fun _ => True) (okp := fun _ => True) ?hr ?hp (fun _ hk => hk) trivial (Below.refl _ _) (Nat.le_refl _) (by simp) ?_; (case hd => rfl); (case hg => rfl); (case hr => first | (go_simp; done) | (go_simp; rfl)); (case hp => exact (Reps.one (show Kd.M Kd.string _ _ _ (((⟨#[95]⟩ : ByteArray) ++ ((rd_T56 t123 t129).f0)) ++ t122) [.string (((⟨#[95]⟩ : ByteArray) ++ ((rd_T56 t123 t129).f0)) ++ t122)] from rfl) (Reps.none _ _))); intro v135 w32 ho33 hb hg_ hnew_; clear hg_ hnew_; (first | rw [← Ny134.out] at ho33 | (simp only [Int.reduceToNat] at ho33; rw [← Ny134.out] at ho33)); have n0_ := Aside0.mk (Kd.R_below (by (with_reducible repeat (first | apply Kd.R_alloc | apply Kd.R_drewN | apply Kd.R_drew)); exact HO125.out) hb); have n1_ := Aside0.mk (Kd.R_below (by (with_reducible repeat (first | apply Kd.R_alloc | apply Kd.R_drewN | apply Kd.R_drew)); exact HO128.out) hb); have n2_ := Aside0.mk (Kd.R_lower ho33 (below_size (by repeat (first | (with_reducible first | exact HB.out | apply below_alloc | apply pw_below_drewN | apply below_drew1 | refine below_set ?_ GE131.out) | exact HB.out)))); have n3_ := Aside0.mk (blk_below (g := gb131) (o := .cells #[.string ((rd_T56 t123 t129).f0), .string ((rd_T56 t123 t129).f1)] 56 (0, 0)) (by (with_reducible repeat (first | refine blk_drewN ?_ _ | refine blk_drew ?_ | refine blk_alloc ?_ _)); exact BK131.out) hb); have n4_ := Aside0.mk (below_step (by repeat (first | (with_reducible first | exact HB.out | apply below_alloc | apply pw_below_drewN | apply below_drew1 | refine below_set ?_ GE131.out) | exact HB.out)) hb); clear HO125; clear HO128; clear BK131; clear HB; have HO125 := n0_; have HO128 := n1_; have HO136 := n2_; have BK131 := n3_; have HB := n4_; clear n0_ n1_ n2_ n3_ n4_; clear hb ho33; have hcz34_0 : w32.cell? ⟨gb131, 0, none⟩ = some (.string ((rd_T56 t123 t129).f0)) := (blk_cell BK131.out 0).trans rfl; have hcz34_1 : w32.cell? ⟨gb131, 1, none⟩ = some (.string ((rd_T56 t123 t129).f1)) := (blk_cell BK131.out 1).trans rfl; have hfz34_0 := blk_frozen BK131.out 0; have hfz34_1 := blk_frozen BK131.out 1; obtain ⟨Ao35, co35, eo35⟩ := Kd.R_slice HO136.out; subst eo35) | (go_at_call 29; (with_reducible refine (laws_lgTold.calls kj3 _ _ y134 t132 (((rd_T56 t123 t129).f1) ++ t122) t137 _ ?side1 ?side2 (show StrIs _ from ?side3) A21.out).mono ?_); (case side1 => repeat (first | exact (Kd.R_reads' HO136.out).2.2 | (with_reducible refine Kd.C_alloc ?_ _) | (with_reducible refine Kd.C_drewN ?_ _) | (with_reducible refine Kd.C_drew ?_))); (case side2 => exact (Kd.R_reads' HO136.out).2.1); (case side3 => exact Stays.below hT_ (by first | (repeat (first | (with_reducible first | exact HB.out | apply below_alloc | apply pw_below_drewN | apply below_drew1 | refine below_set ?_ GE131.out) | exact HB.out)) | (repeat (first | exact Below.refl _ _ | apply below_drew1 | apply pw_below_drewN)))); rintro e w36 ⟨rfl, hb⟩; have n0_ := Aside0.mk (Kd.R_below (by (with_reducible repeat (first | apply Kd.R_alloc | apply Kd.R_drewN | apply Kd.R_drew)); exact HO125.out) hb); have n1_ := Aside0.mk (Kd.R_below (by (with_reducible repeat (first | apply Kd.R_alloc | apply Kd.R_drewN | apply Kd.R_drew)); exact HO128.out) hb); have n2_ := Aside0.mk (Kd.R_below (by (with_reducible repeat (first | apply Kd.R_alloc | apply Kd.R_drewN | apply Kd.R_drew)); exact HO136.out) hb); have n3_ := Aside0.mk (blk_below (g := gb131) (o := .cells #[.string ((rd_T56 t123 t129).f0), .string ((rd_T56 t123 t129).f1)] 56 (0, 0)) (by (with_reducible repeat (first | refine blk_drewN ?_ _ | refine blk_drew ?_ | refine blk_alloc ?_ _)); exact BK131.out) hb); have n4_ := Aside0.mk (below_step (by repeat (first | (with_reducible first | exact HB.out | apply below_alloc | apply pw_below_drewN | apply below_drew1 | refine below_set ?_ GE131.out) | exact HB.out)) hb); clear HO125; clear HO128; clear HO136; clear BK131; clear HB; have HO125 := n0_; have HO128 := n1_; have HO136 := n2_; have BK131 := n3_; have HB := n4_; clear n0_ n1_ n2_ n3_ n4_; (try clear hb); (try clear hb2); (try clear hk); (try clear hi)))
                        go_ret
                        exact ⟨by first | rfl | (simp [errW_none, errW_some] <;> rfl) | (simp only [← hji7]; first | rfl | (simp [errW_none, errW_some] <;> rfl)) | (simp [*, errW_none, errW_some] <;> rfl), by repeat (first | (with_reducible first | exact HB.out | apply below_alloc | apply pw_below_drewN | apply below_drew1 | refine below_set ?_ GE131.out) | exact HB.out)⟩
                      · rw [if_neg c20] at H
                        exact absurd H (by simp)
                    · rw [if_neg c19] at H
                      exact absurd H (by simp)
                  · rw [if_neg c18] at H
                    exact absurd H (by simp)
                · replace c17 := Bool.eq_false_iff.mpr c17
                  subst c17
                  have H1 : (some true) = some r := by rw [if_neg (show ¬ (false = true) by decide)] at H; exact H
                  clear H
                  have H := H1
                  clear H1
                  obtain rfl := Option.some.inj H
                  obtain ⟨i037, hi037, _, hsz37, _⟩ := info_parts info5
                  obtain ⟨hcut37, hA37, hC37⟩ := print_take_of (P := Tryd.prog) (Value.int .u8) 0 27 5 .i64 Tryd.underlying27 hi037 hsz37 A1 c1 l1 (ji7) (of_decide_eq_true (by first | (with_reducible assumption) | assumption)) (of_decide_eq_true (by first | (with_reducible assumption) | assumption)) HC1.out
                  have HR121 := Aside0.mk (Kd.C_of_reads (h1 := fun _ => rfl) (hA37 _ (Kd.reads_of_C HR1.out)))
                  have HC121 := Aside0.mk hC37
                  clear hA37 hC37 hi037 hsz37
                  go_wp2_with (first | (go_at_call 32; refine (idCut_at _ _ _ _ _ _ (by assumption) (by assumption)).mono ?_; rintro e w_ ⟨rfl, rfl⟩) | ((with_reducible refine gate_callee (f := 31) rfl ?_); refine goesL_ (some 21) rfl rfl Tryd.func31 (by kernel_rfl) rfl #[.slice A1 (l1.take ((ji7) : Int).toNat).length c1] rfl (by (try simp only [List.map_toArray, List.map_cons, List.map_nil]); first | done | (rw [show (l1.take ((ji7) : Int).toNat).length = (ji7).toNat from (by rw [List.length_take]; have h_ : ((ji7) : Int) ≤ (l1.length : Int) := of_decide_eq_true (by first | (with_reducible assumption) | assumption); omega)] <;> rfl) | (simp only [hji7]; rfl) | rfl | (simp only [List.length_drop, List.length_take]; rfl)) ?_; (with_reducible refine (spec_AnWord.calls kj3 _ _ (l1.take ((ji7) : Int).toNat) t122 _ ?side1 ?side2 A10.out).mono ?_); (case side1 => repeat (first | exact (Kd.C_below HR121.out HB.out) | (with_reducible refine Kd.C_alloc ?_ _) | (with_reducible refine Kd.C_drewN ?_ _) | (with_reducible refine Kd.C_drew ?_))); (case side2 => exact HC121.out); rintro e w38 ⟨rfl, hb⟩; refine ⟨_, rfl, ?_⟩; have n0_ := Aside0.mk (below_step (by repeat (first | (with_reducible first | exact HB.out | apply below_alloc | apply pw_below_drewN | apply below_drew1) | exact HB.out)) hb); clear HB; have HB := n0_; clear n0_; (try clear hb); (try clear hb2); (try clear hk); (try clear hi)) | ((with_reducible refine gate_callee (f := 33) rfl ?_); refine goesL_ (some 22) rfl rfl Tryd.func33 (by kernel_rfl) rfl #[] rfl (by (try simp only [List.map_toArray, List.map_cons, List.map_nil]); first | done | rfl | (simp only [List.length_drop, List.length_take]; rfl)) ?_; (with_reducible refine (spec_LgEscapes.calls  t123 _ A11.out).mono ?_); rintro e w39 ⟨v124, rfl, ho0, hb⟩; refine ⟨_, rfl, ?_⟩; have n0_ := Aside0.mk (Kd.R_lower ho0 (below_size (by repeat (first | (with_reducible first | exact HB.out | apply below_alloc | apply pw_below_drewN | apply below_drew1) | exact HB.out)))); have n1_ := Aside0.mk (below_step (by repeat (first | (with_reducible first | exact HB.out | apply below_alloc | apply pw_below_drewN | apply below_drew1) | exact HB.out)) hb); clear HB; have HO125 := n0_; have HB := n1_; clear n0_ n1_; (try clear hb); (try clear hb2); (try clear hk); (try clear hi); (try clear ho0)) | ((with_reducible refine gate_callee (f := 33) rfl ?_); refine goesL_ (some 24) rfl rfl Tryd.func33 (by kernel_rfl) rfl #[] rfl (by (try simp only [List.map_toArray, List.map_cons, List.map_nil]); first | done | rfl | (simp only [List.length_drop, List.length_take]; rfl)) ?_; (with_reducible refine (spec_LgEscapes.calls  t126 _ A12.out).mono ?_); rintro e w40 ⟨v127, rfl, ho0, hb⟩; refine ⟨_, rfl, ?_⟩; have n0_ := Aside0.mk (Kd.R_elder' (by (with_reducible repeat (first | apply Kd.R_alloc | apply Kd.R_drewN | apply Kd.R_drew)); exact HO125.out) (Kd.R_base ho0) hb); have n1_ := Aside0.mk (Kd.R_lower (Kd.R_new' ho0 (Kd.R_lt (by (with_reducible repeat (first | apply Kd.R_alloc | apply Kd.R_drewN | apply Kd.R_drew)); exact HO125.out))) (below_size (by repeat (first | (with_reducible first | exact HB.out | apply below_alloc | apply pw_below_drewN | apply below_drew1) | exact HB.out)))); have n2_ := Aside0.mk (below_step (by repeat (first | (with_reducible first | exact HB.out | apply below_alloc | apply pw_below_drewN | apply below_drew1) | exact HB.out)) hb); clear HO125; clear HB; have HO125 := n0_; have HO128 := n1_; have HB := n2_; clear n0_ n1_ n2_; (try clear hb); (try clear hb2); (try clear hk); (try clear hi); (try clear ho0); obtain ⟨Ao41, co41, eo41⟩ := Kd.R_slice HO128.out; subst eo41) | ((with_reducible refine gate_callee (f := 34) rfl ?_); refine goesL_ (some 27) rfl rfl Tryd.func34 (by kernel_rfl) rfl #[.int .i64 a0, .int .i64 (wrap64 ((t126.length : Int) - 1))] rfl (by (try simp only [List.map_toArray, List.map_cons, List.map_nil]); first | done | rfl | (simp only [List.length_drop, List.length_take]; rfl)) ?_; (with_reducible refine (laws_idAt.calls a0 (wrap64 ((t126.length : Int) - 1)) t129 _ A13.out).mono ?_); rintro e w' ⟨rfl, ⟨nd, rfl⟩⟩; refine ⟨_, rfl, ?_⟩; (try (rw [drewN_self w40]; generalize hq_ : World.drewN w40 _ = w40; have n0_ : Aside0 (Kd.R k56 56 w40 w.heap.size (fun k_ => some k_ ≠ (.slice Ao41 t126.length co41 : Value).ownBlock) v124 t123) := ⟨by rw [← hq_]; exact (by (with_reducible repeat (first | apply Kd.R_alloc | apply Kd.R_drewN | apply Kd.R_drew)); exact Kd.R_mono HO125.out (fun _ hk => hk.2))⟩; have n1_ : Aside0 (Kd.R k56 56 w40 w.heap.size (fun k_ => some k_ ≠ (v124 : Value).ownBlock) (.slice Ao41 t126.length co41) t126) := ⟨by rw [← hq_]; exact (by (with_reducible repeat (first | apply Kd.R_alloc | apply Kd.R_drewN | apply Kd.R_drew)); exact Kd.R_mono HO128.out (fun _ hk => hk.2))⟩; have n2_ : Aside0 (Below w.heap.size w w40) := ⟨by rw [← hq_]; exact (by repeat (first | (with_reducible first | exact HB.out | apply below_alloc | apply pw_below_drewN | apply below_drew1) | exact HB.out))⟩; clear HO125 HO128 HB hq_; have HO125 := n0_; have HO128 := n1_; have HB := n2_; clear n0_ n1_ n2_)); obtain ⟨Ao42, co42, eo42⟩ := Kd.R_slice HO125.out; subst eo42; have p130 : 0 ≤ (t129 : Int) := of_decide_eq_true (by first | (with_reducible assumption) | assumption); have q130 : t129 < (t123.length : Int) := of_decide_eq_true (by first | (with_reducible assumption) | assumption); obtain ⟨ad130, e130, hx130_0, hx130_1⟩ := at_T56 (Kd.R_reads' HO125.out).2.2 t129 p130 q130; cases e130; replace p130 := eq_true p130; replace q130 := eq_true q130) | ((with_reducible refine gate_dst (N := 8) rfl ?_); (try (refine gate_guard (by rfl) ?_; dsimp only)); refine box_event ?hg (N := 8) ?hd (cs := #[.string (⟨#[]⟩ : ByteArray), .string (⟨#[]⟩ : ByteArray)]) (t := 56) ?hr ?_; (case hd => rfl); (case hg => rfl); (case hr => first | (go_simp; done) | (go_simp; rfl)); intro gb131 hg w43 hbox hb; have n0_ := Aside0.mk (Kd.R_below (Kd.R_elderB (by (with_reducible repeat (first | apply Kd.R_alloc | apply Kd.R_drewN | apply Kd.R_drew)); exact HO125.out) gb131 (Nat.le_of_eq hg.symm)) hb); have n1_ := Aside0.mk (Kd.R_below (Kd.R_elderB (by (with_reducible repeat (first | apply Kd.R_alloc | apply Kd.R_drewN | apply Kd.R_drew)); exact HO128.out) gb131 (Nat.le_of_eq hg.symm)) hb); have n2_ := Aside0.mk (below_step (by repeat (first | (with_reducible first | exact HB.out | apply below_alloc | apply pw_below_drewN | apply below_drew1) | exact HB.out)) hb); have n3_ := Aside0.mk (hbox); have n4_ := Aside0.mk ((by rw [hg]; exact (below_size (by repeat (first | (with_reducible first | exact HB.out | apply below_alloc | apply pw_below_drewN | apply below_drew1) | exact HB.out))) : w.heap.size ≤ gb131)); have n5_ := Aside0.mk ((by rw [hg]; exact (below_size (by repeat (first | (with_reducible first | exact HB.out | apply below_alloc | apply pw_below_drewN | apply below_drew1) | exact HB.out))) : w.heap.size ≤ gb131)); clear HO125; clear HO128; clear HB; have HO125 := n0_; have HO128 := n1_; have HB := n2_; have BK131 := n3_; have GW131 := n4_; have GE131 := n5_; clear n0_ n1_ n2_ n3_ n4_ n5_; clear hb hbox hg; have hcz44_0 : w43.cell? ⟨gb131, 0, none⟩ = some (.string (⟨#[]⟩ : ByteArray)) := (blk_cell BK131.out 0).trans rfl; have hcz44_1 : w43.cell? ⟨gb131, 1, none⟩ = some (.string (⟨#[]⟩ : ByteArray)) := (blk_cell BK131.out 1).trans rfl; have hfz44_0 := blk_frozen BK131.out 0; have hfz44_1 := blk_frozen BK131.out 1) | ((with_reducible refine gate_callee (f := 28) rfl ?_); refine goesL_ (some 32) rfl rfl Tryd.func28 (by kernel_rfl) rfl #[.slice A2 l2.length c2] rfl (by (try simp only [List.map_toArray, List.map_cons, List.map_nil]); first | done | rfl | (simp only [List.length_drop, List.length_take]; rfl)) ?_; (with_reducible refine (laws_lgHash.calls _ _ l2 t132 false _ ?side1 ?side2 A16.out).mono ?_); (case side1 => exact Kd.C_below HR2.out (by repeat (first | (with_reducible first | exact HB.out | apply below_alloc | apply pw_below_drewN | apply below_drew1 | refine below_set ?_ GE131.out) | exact HB.out))); (case side2 => exact HC2.out); rintro e w45 ⟨rfl, hb⟩; refine ⟨_, rfl, ?_⟩; have n0_ := Aside0.mk (Kd.R_below (by (with_reducible repeat (first | apply Kd.R_alloc | apply Kd.R_drewN | apply Kd.R_drew)); exact (Kd.R_mono (Kd.R_far (p := ⟨gb131, 1, none⟩) (Kd.R_far (p := ⟨gb131, 0, none⟩) (Kd.R_mono HO125.out (fun k_ hk => (⟨hk, hk.2⟩ : _ ∧ k_ ≠ gb131))) (fun _ hk => hk.2) (.string ((rd_T56 t123 t129).f0))) (fun _ hk => hk.2) (.string ((rd_T56 t123 t129).f1))) (fun _ h_ => h_.1))) hb); have n1_ := Aside0.mk (Kd.R_below (by (with_reducible repeat (first | apply Kd.R_alloc | apply Kd.R_drewN | apply Kd.R_drew)); exact (Kd.R_mono (Kd.R_far (p := ⟨gb131, 1, none⟩) (Kd.R_far (p := ⟨gb131, 0, none⟩) (Kd.R_mono HO128.out (fun k_ hk => (⟨hk, hk.2⟩ : _ ∧ k_ ≠ gb131))) (fun _ hk => hk.2) (.string ((rd_T56 t123 t129).f0))) (fun _ hk => hk.2) (.string ((rd_T56 t123 t129).f1))) (fun _ h_ => h_.1))) hb); have n2_ := Aside0.mk (blk_below (g := gb131) (o := .cells #[.string ((rd_T56 t123 t129).f0), .string ((rd_T56 t123 t129).f1)] 56 (0, 0)) (by (with_reducible repeat (first | refine blk_drewN ?_ _ | refine blk_drew ?_ | refine blk_alloc ?_ _)); refine blk_put (cs := #[.string ((rd_T56 t123 t129).f0), .string (⟨#[]⟩ : ByteArray)]) ?_ 1 _ rfl; (with_reducible repeat (first | refine blk_drewN ?_ _ | refine blk_drew ?_ | refine blk_alloc ?_ _)); refine blk_put (cs := #[.string (⟨#[]⟩ : ByteArray), .string (⟨#[]⟩ : ByteArray)]) ?_ 0 _ rfl; (with_reducible repeat (first | refine blk_drewN ?_ _ | refine blk_drew ?_ | refine blk_alloc ?_ _)); exact BK131.out) hb); have n3_ := Aside0.mk (below_step (by repeat (first | (with_reducible first | exact HB.out | apply below_alloc | apply pw_below_drewN | apply below_drew1 | refine below_set ?_ GE131.out) | exact HB.out)) hb); clear HO125; clear HO128; clear BK131; clear HB; have HO125 := n0_; have HO128 := n1_; have BK131 := n2_; have HB := n3_; clear n0_ n1_ n2_ n3_; (try clear hb); (try clear hb2); (try clear hk); (try clear hi)))
                  go_ret
                  exact ⟨by first | rfl | (simp [errW_none, errW_some] <;> rfl) | (simp only [← hji7]; first | rfl | (simp [errW_none, errW_some] <;> rfl)) | (simp [*, errW_none, errW_some] <;> rfl), by repeat (first | (with_reducible first | exact HB.out | apply below_alloc | apply pw_below_drewN | apply below_drew1 | refine below_set ?_ GE131.out) | exact HB.out)⟩
              · rw [if_neg c15] at H
                exact absurd H (by simp)
            · rw [if_neg c14] at H
              exact absurd H (by simp)
          · rw [if_neg c9] at H
            exact absurd H (by simp)
        · rw [if_neg c8] at H
          exact absurd H (by simp)

/-- THE ONE PURE STATEMENT of laws_FnLegacyFirst: yours. -/
def laws_FnLegacyFirst.Pure : Prop := ∀ (a0 : Int) (l1 : List Int) (l2 : List Int), (Lit.int .i64 a0).wf = true → l1.length ≤ maxLen → l1.length * 1 ≤ 140737488351232 → (∀ x ∈ l1, (Lit.int .u8 x).wf = true) → l2.length ≤ maxLen → l2.length * 1 ≤ 140737488351232 → (∀ x ∈ l2, (Lit.int .u8 x).wf = true) → ∃ k, laws_FnLegacyFirst.f k a0 l1 l2 = some true
theorem laws_FnLegacyFirst.walk (P : laws_FnLegacyFirst.Pure) (a0 : Int) (a1 : Option Addr) (len1 cap1 : Nat) (z1 : List Int) (a2 : Option Addr) (len2 cap2 : Nat) (z2 : List Int) (w : World) (hT_ : StrIs w) (w0 : (Lit.int .i64 a0).wf = true) (w1 : (a1 = none ∧ len1 = 0 ∧ cap1 = 0 ∧ z1 = []) ∨ ∃ x, a1 = some x ∧ len1 ≤ cap1 ∧ cap1 ≤ maxLen ∧ z1.length = cap1 ∧ (∀ i, i < z1.length → w.cell? (x.add i) = some (.int .u8 (z1.getD i 0))) ∧ ∀ n ∈ z1, (Lit.int .u8 n).wf = true) (y1 : len1 * 1 ≤ 140737488351232) (w2 : (a2 = none ∧ len2 = 0 ∧ cap2 = 0 ∧ z2 = []) ∨ ∃ x, a2 = some x ∧ len2 ≤ cap2 ∧ cap2 ≤ maxLen ∧ z2.length = cap2 ∧ (∀ i, i < z2.length → w.cell? (x.add i) = some (.int .u8 (z2.getD i 0))) ∧ ∀ n ∈ z2, (Lit.int .u8 n).wf = true) (y2 : len2 * 1 ≤ 140737488351232) :
    Calls Tryd.prog 9 #[.int .i64 a0, .slice a1 len1 cap1, .slice a2 len2 cap2] w fun e w' => e = .returned (.bool true) ∧ Below w.heap.size w w' := by
  obtain ⟨l1, rfl, hr1, hm1, hw1, hc1⟩ := ReadsInt.ofRowC w1
  obtain ⟨l2, rfl, hr2, hm2, hw2, hc2⟩ := ReadsInt.ofRowC w2
  obtain ⟨k, h⟩ := P a0 l1 l2 w0 hm1 y1 hw1 hm2 y2 hw2
  refine (laws_FnLegacyFirst.calls k a0 _ _ l1 _ _ l2 true w (Kd.C_of_reads (d := (0 : Int)) (h1 := fun _ => rfl) hr1) hc1 (Kd.C_of_reads (d := (0 : Int)) (h1 := fun _ => rfl) hr2) hc2 hT_ h).mono ?_
  rintro e w' ⟨rfl, hd⟩
  exact ⟨rfl, hd⟩

end Go.Proofs.YtpmlnhddkbgefaaDoor.PFnLegacyFirst
