/- Written by a program of this session (wip/tools/myprint.py) with the kit's print: contracts of the functions that one statement reaches; functions that are proved by hand are taken as printed. Conditions: none. -/
import Derived.Test.YtkhbmkccbhkolaaGreatDoorPFnUnicodeNamesx0
import Derived.Test.YtkhbmkccbhkolaaGreatDoorPFnUnicodeNamesx1
import Derived.Test.YtkhbmkccbhkolaaGreatDoorPFnUnicodeNamesx3
namespace Go.Proofs.YtkhbmkccbhkolaaGreatDoor.PFnUnicodeNames
open Go.RowKit Go.Proofs.YtkhbmkccbhkolaaGreatDoorW.PrintWords Go.Proofs.YtkhbmkccbhkolaaGreatDoorW.PrintLast Go.Proofs.YtkhbmkccbhkolaaGreatDoorW.PrintMore
attribute [local go_sem] max2_int min2_int max_two min_two max_three min_three max_four min_four   -- for this text's walks alone
set_option linter.unusedVariables false
set_option linter.unusedSimpArgs false

/-! ### spec_IdSymbol: function 8 -/
def spec_IdSymbol.l0 : Nat → List (S30) → ByteArray → List (S30) → Int → Int → Option (ByteArray)
  | 0, _, _, _, _, _ => none
  | k + 1, x2, x7, x15, x16, x17 => if x17 < x16 then (if 0 ≤ x17 then (if x17 < (x15.length : Int) then ((spec_idIdentifier.f k ((rd_T30 x15 x17).f1) ((rd_T30 x15 x17).f2)).bind fun t150 => (if ((rd_T30 x15 x17).f1).toList = ([] : List UInt8) then (if x17 = (wrap64 ((x2.length : Int) - 1)) then ((spec_IdDisambiguator.f k ((rd_T30 x15 x17).f2)).bind fun t151 => (if t151.size + 1 ≤ 9223372036854775807 then (if 1 + (Utf8.encode (wrap32 ((rd_T30 x15 x17).f0))).size ≤ 9223372036854775807 then (if ((⟨#[78]⟩ : ByteArray) ++ (Utf8.encode (wrap32 ((rd_T30 x15 x17).f0)))).size + x7.size ≤ 9223372036854775807 then (if (((⟨#[78]⟩ : ByteArray) ++ (Utf8.encode (wrap32 ((rd_T30 x15 x17).f0)))) ++ x7).size + (t151 ++ (⟨#[48]⟩ : ByteArray)).size ≤ 9223372036854775807 then (spec_IdSymbol.l0 k x2 ((((⟨#[78]⟩ : ByteArray) ++ (Utf8.encode (wrap32 ((rd_T30 x15 x17).f0)))) ++ x7) ++ (t151 ++ (⟨#[48]⟩ : ByteArray))) x15 x16 (wrap64 (x17 + 1))) else (none)) else (none)) else (none)) else (none))) else (if 1 + (Utf8.encode (wrap32 ((rd_T30 x15 x17).f0))).size ≤ 9223372036854775807 then (if ((⟨#[78]⟩ : ByteArray) ++ (Utf8.encode (wrap32 ((rd_T30 x15 x17).f0)))).size + x7.size ≤ 9223372036854775807 then (if (((⟨#[78]⟩ : ByteArray) ++ (Utf8.encode (wrap32 ((rd_T30 x15 x17).f0)))) ++ x7).size + t150.size ≤ 9223372036854775807 then (spec_IdSymbol.l0 k x2 ((((⟨#[78]⟩ : ByteArray) ++ (Utf8.encode (wrap32 ((rd_T30 x15 x17).f0)))) ++ x7) ++ t150) x15 x16 (wrap64 (x17 + 1))) else (none)) else (none)) else (none))) else (if 1 + (Utf8.encode (wrap32 ((rd_T30 x15 x17).f0))).size ≤ 9223372036854775807 then (if ((⟨#[78]⟩ : ByteArray) ++ (Utf8.encode (wrap32 ((rd_T30 x15 x17).f0)))).size + x7.size ≤ 9223372036854775807 then (if (((⟨#[78]⟩ : ByteArray) ++ (Utf8.encode (wrap32 ((rd_T30 x15 x17).f0)))) ++ x7).size + t150.size ≤ 9223372036854775807 then (spec_IdSymbol.l0 k x2 ((((⟨#[78]⟩ : ByteArray) ++ (Utf8.encode (wrap32 ((rd_T30 x15 x17).f0)))) ++ x7) ++ t150) x15 x16 (wrap64 (x17 + 1))) else (none)) else (none)) else (none)))) else (none)) else (none)) else (some x7)
def spec_IdSymbol.f (k : Nat) (a0 : ByteArray) (a1 : Int) (l2 : List (S30)) : Option (ByteArray) := (spec_idIdentifier.f k a0 a1).bind fun t147 => (if 1 + t147.size ≤ 9223372036854775807 then (spec_IdSymbol.l0 k l2 ((⟨#[67]⟩ : ByteArray) ++ t147) l2 (l2.length : Int) 0) else (none))
theorem spec_IdSymbol.mono_l : ∀ k, (∀ y0 y1 y2 y3 y4, LeO (spec_IdSymbol.l0 k y0 y1 y2 y3 y4) (spec_IdSymbol.l0 (k + 1) y0 y1 y2 y3 y4))
  | 0 => fun _ _ _ _ _ r h => by simp [spec_IdSymbol.l0] at h
  | k + 1 => by
    have ih0 := spec_IdSymbol.mono_l k
    · intro y0 y1 y2 y3 y4
      unfold spec_IdSymbol.l0
      repeat' first
      | (with_reducible exact ih0 _ _ _ _ _)
      | (with_reducible exact spec_IdDisambiguator.mono _ _)
      | (with_reducible exact spec_idIdentifier.mono _ _ _)
      | (with_reducible exact LeO.refl _)
      | (with_reducible exact LeO.none _)
      | (with_reducible refine LeO.ite ?_ ?_)
      | (with_reducible refine LeO.bind ?_ (fun _ => ?_))
      | exact ih0 _ _ _ _ _
      | exact spec_IdDisambiguator.mono _ _
      | exact spec_idIdentifier.mono _ _ _
      | exact LeO.none _
      | refine LeO.ite ?_ ?_
      | refine LeO.bind ?_ (fun _ => ?_)
theorem spec_IdSymbol.mono : ∀ a0 a1 a2 k, LeO (spec_IdSymbol.f k a0 a1 a2) (spec_IdSymbol.f (k + 1) a0 a1 a2) := by
  intro a0 a1 a2 k
  have ih0 := spec_IdSymbol.mono_l k
  unfold spec_IdSymbol.f
  repeat' first
      | (with_reducible exact ih0 _ _ _ _ _)
      | (with_reducible exact spec_IdDisambiguator.mono _ _)
      | (with_reducible exact spec_idIdentifier.mono _ _ _)
      | (with_reducible exact LeO.refl _)
      | (with_reducible exact LeO.none _)
      | (with_reducible refine LeO.ite ?_ ?_)
      | (with_reducible refine LeO.bind ?_ (fun _ => ?_))
      | exact ih0 _ _ _ _ _
      | exact spec_IdDisambiguator.mono _ _
      | exact spec_idIdentifier.mono _ _ _
      | exact LeO.none _
      | refine LeO.ite ?_ ?_
      | refine LeO.bind ?_ (fun _ => ?_)
set_option maxHeartbeats 8000000 in
set_option maxRecDepth 100000 in
theorem spec_IdSymbol.calls (k : Nat) (a0 : ByteArray) (a1 : Int) (A2 : Option Addr) (c2 : Nat) (l2 : List (S30)) (r : ByteArray) (w : World) (hr2 : Kd.C k30 w A2 l2.length l2) (hc2 : l2.length ≤ c2) (hT_ : DoorU w) (h : spec_IdSymbol.f k a0 a1 l2 = some r) :
    Calls Tryz.prog 8 #[.string a0, .int .u64 a1, .slice A2 l2.length c2] w fun e w' => e = .returned (.string r) ∧ Below w.heap.size w w' := by
  have hu30 := Tryz.underlying30
  have HR2 := Aside0.mk hr2
  have HC2 := Aside0.mk hc2
  clear hr2 hc2
  have HB := Aside0.mk (Below.refl w.heap.size w)
  have H : ((spec_idIdentifier.f k a0 a1).bind fun t147 => (if 1 + t147.size ≤ 9223372036854775807 then (spec_IdSymbol.l0 k l2 ((⟨#[67]⟩ : ByteArray) ++ t147) l2 (l2.length : Int) 0) else (none))) = some r := h
  clear h
  replace H := Option.bind_eq_some_iff.mp H
  obtain ⟨t147, A40, H⟩ := H
  replace H : (if 1 + t147.size ≤ 9223372036854775807 then (spec_IdSymbol.l0 k l2 ((⟨#[67]⟩ : ByteArray) ++ t147) l2 (l2.length : Int) 0) else (none)) = some r := H
  have A4 := Aside0.mk A40
  clear A40
  by_cases c5 : 1 + t147.size ≤ 9223372036854775807
  · rw [if_pos c5] at H
    have c5b0 := eq_true c5
    have c5b1 : decide (1 + t147.size ≤ 9223372036854775807) = true := decide_eq_true c5
    try have c5b2 : (9223372036854775807 < 1 + t147.size) = False := eq_false (Nat.not_lt.2 c5)
    have H' := Aside0.mk H
    clear H
    go_enter Tryz.func8, Tryz.ntmps8
    go_wp2_with (first | ((with_reducible refine gate_callee (f := 12) rfl ?_); refine goesL_ (some 13) rfl rfl Tryz.func12 (by kernel_rfl) rfl #[.string a0, .int .u64 a1] rfl (by (try simp only [List.map_toArray, List.map_cons, List.map_nil]); first | done | rfl | (simp only [List.length_drop, List.length_take]; rfl)) ?_; (with_reducible refine (spec_idIdentifier.calls k a0 a1 t147 _ (show DoorU _ from ?side1) A4.out).mono ?_); (case side1 => exact Stays.below hT_ (by first | (repeat (first | (with_reducible first | exact HB.out | apply below_alloc | apply pw_below_drewN | apply below_drew1) | exact HB.out)) | (repeat (first | exact Below.refl _ _ | apply below_drew1 | apply pw_below_drewN)))); rintro e w6 ⟨rfl, hb⟩; refine ⟨_, rfl, ?_⟩; have n0_ := Aside0.mk (below_step (by repeat (first | (with_reducible first | exact HB.out | apply below_alloc | apply pw_below_drewN | apply below_drew1) | exact HB.out)) hb); clear HB; have HB := n0_; clear n0_; (try clear hb); (try clear hb2); (try clear hk); (try clear hi)))
    go_loopg [7, 17] k (fun kq v7 v17 w' => ∃ (x7_1 : ByteArray) (x17_1 : Int), v7 = .string x7_1 ∧ v17 = .int .i64 x17_1 ∧ Aside0 (spec_IdSymbol.l0 kq l2 x7_1 l2 (l2.length : Int) x17_1 = some r) ∧ Aside0 (kq ≤ k) ∧ Aside0 (Below w.heap.size w w'))
    case atStart => exact ⟨((⟨#[67]⟩ : ByteArray) ++ t147), (0), (by first | rfl | (simp; done) | (simp [*]; done)), (by first | rfl | (simp; done) | (simp [*]; done)), H', ⟨Nat.le_refl _⟩, ⟨by repeat (first | (with_reducible first | exact HB.out | apply below_alloc | apply pw_below_drewN | apply below_drew1) | exact HB.out)⟩⟩
    case round =>
      clear H'
      try clear c1
      try clear c2
      try clear p2
      try clear c5
      try clear c5b0
      try clear c5b1
      try clear c5b2
      obtain ⟨x7_1, x17_1, rfl, rfl, HA, HK1, HB⟩ := hrel
      cases gk with
      | zero => exact absurd HA.out (by simp [spec_IdSymbol.l0])
      | succ k1 =>
        have H := HA.out
        clear HA
        simp only [spec_IdSymbol.l0] at H
        by_cases c7 : x17_1 < (l2.length : Int)
        · rw [if_pos c7] at H
          have c7b0 : decide (x17_1 < (l2.length : Int)) = true := decide_eq_true c7
          clear c7
          by_cases c8 : 0 ≤ x17_1
          · rw [if_pos c8] at H
            have c8b0 : decide (0 ≤ x17_1) = true := decide_eq_true c8
            clear c8
            by_cases c9 : x17_1 < (l2.length : Int)
            · rw [if_pos c9] at H
              have c9b0 : decide (x17_1 < (l2.length : Int)) = true := decide_eq_true c9
              clear c9
              replace H := Option.bind_eq_some_iff.mp H
              obtain ⟨t150, A100, H⟩ := H
              replace H : (if ((rd_T30 l2 x17_1).f1).toList = ([] : List UInt8) then (if x17_1 = (wrap64 ((l2.length : Int) - 1)) then ((spec_IdDisambiguator.f k1 ((rd_T30 l2 x17_1).f2)).bind fun t151 => (if t151.size + 1 ≤ 9223372036854775807 then (if 1 + (Utf8.encode (wrap32 ((rd_T30 l2 x17_1).f0))).size ≤ 9223372036854775807 then (if ((⟨#[78]⟩ : ByteArray) ++ (Utf8.encode (wrap32 ((rd_T30 l2 x17_1).f0)))).size + x7_1.size ≤ 9223372036854775807 then (if (((⟨#[78]⟩ : ByteArray) ++ (Utf8.encode (wrap32 ((rd_T30 l2 x17_1).f0)))) ++ x7_1).size + (t151 ++ (⟨#[48]⟩ : ByteArray)).size ≤ 9223372036854775807 then (spec_IdSymbol.l0 k1 l2 ((((⟨#[78]⟩ : ByteArray) ++ (Utf8.encode (wrap32 ((rd_T30 l2 x17_1).f0)))) ++ x7_1) ++ (t151 ++ (⟨#[48]⟩ : ByteArray))) l2 (l2.length : Int) (wrap64 (x17_1 + 1))) else (none)) else (none)) else (none)) else (none))) else (if 1 + (Utf8.encode (wrap32 ((rd_T30 l2 x17_1).f0))).size ≤ 9223372036854775807 then (if ((⟨#[78]⟩ : ByteArray) ++ (Utf8.encode (wrap32 ((rd_T30 l2 x17_1).f0)))).size + x7_1.size ≤ 9223372036854775807 then (if (((⟨#[78]⟩ : ByteArray) ++ (Utf8.encode (wrap32 ((rd_T30 l2 x17_1).f0)))) ++ x7_1).size + t150.size ≤ 9223372036854775807 then (spec_IdSymbol.l0 k1 l2 ((((⟨#[78]⟩ : ByteArray) ++ (Utf8.encode (wrap32 ((rd_T30 l2 x17_1).f0)))) ++ x7_1) ++ t150) l2 (l2.length : Int) (wrap64 (x17_1 + 1))) else (none)) else (none)) else (none))) else (if 1 + (Utf8.encode (wrap32 ((rd_T30 l2 x17_1).f0))).size ≤ 9223372036854775807 then (if ((⟨#[78]⟩ : ByteArray) ++ (Utf8.encode (wrap32 ((rd_T30 l2 x17_1).f0)))).size + x7_1.size ≤ 9223372036854775807 then (if (((⟨#[78]⟩ : ByteArray) ++ (Utf8.encode (wrap32 ((rd_T30 l2 x17_1).f0)))) ++ x7_1).size + t150.size ≤ 9223372036854775807 then (spec_IdSymbol.l0 k1 l2 ((((⟨#[78]⟩ : ByteArray) ++ (Utf8.encode (wrap32 ((rd_T30 l2 x17_1).f0)))) ++ x7_1) ++ t150) l2 (l2.length : Int) (wrap64 (x17_1 + 1))) else (none)) else (none)) else (none))) = some r := H
              have A10 := Aside0.mk A100
              clear A100
              by_cases c11 : ((rd_T30 l2 x17_1).f1).toList = ([] : List UInt8)
              · rw [if_pos c11] at H
                have c11b0 : (((rd_T30 l2 x17_1).f1).toList == ([] : List UInt8)) = true := beq_iff_eq.mpr c11
                have c11b1 : (((rd_T30 l2 x17_1).f1).toList != ([] : List UInt8)) = false := bne_eq_false_iff_eq.mpr c11
                clear c11
                by_cases c12 : x17_1 = (wrap64 ((l2.length : Int) - 1))
                · rw [if_pos c12] at H
                  have c12b0 : (x17_1 == (wrap64 ((l2.length : Int) - 1))) = true := beq_iff_eq.mpr c12
                  have c12b1 : (x17_1 != (wrap64 ((l2.length : Int) - 1))) = false := bne_eq_false_iff_eq.mpr c12
                  clear c12
                  replace H := Option.bind_eq_some_iff.mp H
                  obtain ⟨t151, A130, H⟩ := H
                  replace H : (if t151.size + 1 ≤ 9223372036854775807 then (if 1 + (Utf8.encode (wrap32 ((rd_T30 l2 x17_1).f0))).size ≤ 9223372036854775807 then (if ((⟨#[78]⟩ : ByteArray) ++ (Utf8.encode (wrap32 ((rd_T30 l2 x17_1).f0)))).size + x7_1.size ≤ 9223372036854775807 then (if (((⟨#[78]⟩ : ByteArray) ++ (Utf8.encode (wrap32 ((rd_T30 l2 x17_1).f0)))) ++ x7_1).size + (t151 ++ (⟨#[48]⟩ : ByteArray)).size ≤ 9223372036854775807 then (spec_IdSymbol.l0 k1 l2 ((((⟨#[78]⟩ : ByteArray) ++ (Utf8.encode (wrap32 ((rd_T30 l2 x17_1).f0)))) ++ x7_1) ++ (t151 ++ (⟨#[48]⟩ : ByteArray))) l2 (l2.length : Int) (wrap64 (x17_1 + 1))) else (none)) else (none)) else (none)) else (none)) = some r := H
                  have A13 := Aside0.mk A130
                  clear A130
                  by_cases c14 : t151.size + 1 ≤ 9223372036854775807
                  · rw [if_pos c14] at H
                    have c14b0 := eq_true c14
                    have c14b1 : decide (t151.size + 1 ≤ 9223372036854775807) = true := decide_eq_true c14
                    try have c14b2 : (9223372036854775807 < t151.size + 1) = False := eq_false (Nat.not_lt.2 c14)
                    by_cases c15 : 1 + (Utf8.encode (wrap32 ((rd_T30 l2 x17_1).f0))).size ≤ 9223372036854775807
                    · rw [if_pos c15] at H
                      have c15b0 := eq_true c15
                      have c15b1 : decide (1 + (Utf8.encode (wrap32 ((rd_T30 l2 x17_1).f0))).size ≤ 9223372036854775807) = true := decide_eq_true c15
                      try have c15b2 : (9223372036854775807 < 1 + (Utf8.encode (wrap32 ((rd_T30 l2 x17_1).f0))).size) = False := eq_false (Nat.not_lt.2 c15)
                      by_cases c16 : ((⟨#[78]⟩ : ByteArray) ++ (Utf8.encode (wrap32 ((rd_T30 l2 x17_1).f0)))).size + x7_1.size ≤ 9223372036854775807
                      · rw [if_pos c16] at H
                        have c16b0 := eq_true c16
                        have c16b1 : decide (((⟨#[78]⟩ : ByteArray) ++ (Utf8.encode (wrap32 ((rd_T30 l2 x17_1).f0)))).size + x7_1.size ≤ 9223372036854775807) = true := decide_eq_true c16
                        try have c16b2 : (9223372036854775807 < ((⟨#[78]⟩ : ByteArray) ++ (Utf8.encode (wrap32 ((rd_T30 l2 x17_1).f0)))).size + x7_1.size) = False := eq_false (Nat.not_lt.2 c16)
                        try have c16b4 : (9223372036854775807 < 1 + (Utf8.encode (wrap32 ((rd_T30 l2 x17_1).f0))).size + x7_1.size) = False := eq_false (by have h_ := c16; (repeat rw [ByteArray.size_append] at h_); exact Nat.not_lt.2 h_)
                        by_cases c17 : (((⟨#[78]⟩ : ByteArray) ++ (Utf8.encode (wrap32 ((rd_T30 l2 x17_1).f0)))) ++ x7_1).size + (t151 ++ (⟨#[48]⟩ : ByteArray)).size ≤ 9223372036854775807
                        · rw [if_pos c17] at H
                          have c17b0 := eq_true c17
                          have c17b1 : decide ((((⟨#[78]⟩ : ByteArray) ++ (Utf8.encode (wrap32 ((rd_T30 l2 x17_1).f0)))) ++ x7_1).size + (t151 ++ (⟨#[48]⟩ : ByteArray)).size ≤ 9223372036854775807) = true := decide_eq_true c17
                          try have c17b2 : (9223372036854775807 < (((⟨#[78]⟩ : ByteArray) ++ (Utf8.encode (wrap32 ((rd_T30 l2 x17_1).f0)))) ++ x7_1).size + (t151 ++ (⟨#[48]⟩ : ByteArray)).size) = False := eq_false (Nat.not_lt.2 c17)
                          try have c17b4 : (9223372036854775807 < 1 + (Utf8.encode (wrap32 ((rd_T30 l2 x17_1).f0))).size + x7_1.size + (t151.size + 1)) = False := eq_false (by have h_ := c17; (repeat rw [ByteArray.size_append] at h_); exact Nat.not_lt.2 h_)
                          have H' := Aside0.mk H
                          clear H
                          have p148 : 0 ≤ (x17_1 : Int) := of_decide_eq_true (by first | (with_reducible assumption) | assumption)
                          have q148 : x17_1 < (l2.length : Int) := of_decide_eq_true (by first | (with_reducible assumption) | assumption)
                          obtain ⟨ad148, e148, hx148_0, hx148_1, hx148_2⟩ := at_T30 HR2.out x17_1 p148 q148
                          cases e148
                          replace hx148_0 := (HB.out.cell (World.block_lt_of_cell? w _ hx148_0)).trans hx148_0
                          replace hx148_1 := (HB.out.cell (World.block_lt_of_cell? w _ hx148_1)).trans hx148_1
                          replace hx148_2 := (HB.out.cell (World.block_lt_of_cell? w _ hx148_2)).trans hx148_2
                          replace p148 := eq_true p148
                          replace q148 := eq_true q148
                          go_wp2_with (first | ((with_reducible refine gate_dst (N := 9) rfl ?_); (try (refine gate_guard (by rfl) ?_; dsimp only)); refine box_event ?hg (N := 9) ?hd (cs := #[.int .u8 0, .string (⟨#[]⟩ : ByteArray), .int .u64 0]) (t := 30) ?hr ?_; (case hd => rfl); (case hg => rfl); (case hr => first | (go_simp; done) | (go_simp; rfl)); intro gb149 hg w18 hbox hb; have n0_ := Aside0.mk (below_step (by repeat (first | (with_reducible first | exact HB.out | apply below_alloc | apply pw_below_drewN | apply below_drew1) | exact HB.out)) hb); have n1_ := Aside0.mk (hbox); have n2_ := Aside0.mk ((by rw [hg]; exact (below_size (by repeat (first | (with_reducible first | exact HB.out | apply below_alloc | apply pw_below_drewN | apply below_drew1) | exact HB.out))) : w.heap.size ≤ gb149)); have n3_ := Aside0.mk ((by rw [hg]; exact (below_size (by repeat (first | (with_reducible first | exact HB.out | apply below_alloc | apply pw_below_drewN | apply below_drew1) | exact HB.out))) : w.heap.size ≤ gb149)); clear HB; have HB := n0_; have BK149 := n1_; have GW149 := n2_; have GE149 := n3_; clear n0_ n1_ n2_ n3_; clear hb hbox hg; have hcz19_0 : w18.cell? ⟨gb149, 0, none⟩ = some (.int .u8 0) := (blk_cell BK149.out 0).trans rfl; have hcz19_1 : w18.cell? ⟨gb149, 1, none⟩ = some (.string (⟨#[]⟩ : ByteArray)) := (blk_cell BK149.out 1).trans rfl; have hcz19_2 : w18.cell? ⟨gb149, 2, none⟩ = some (.int .u64 0) := (blk_cell BK149.out 2).trans rfl; have hfz19_0 := blk_frozen BK149.out 0; have hfz19_1 := blk_frozen BK149.out 1; have hfz19_2 := blk_frozen BK149.out 2) | ((with_reducible refine gate_callee (f := 12) rfl ?_); refine goesL_ (some 26) rfl rfl Tryz.func12 (by kernel_rfl) rfl #[.string ((rd_T30 l2 x17_1).f1), .int .u64 ((rd_T30 l2 x17_1).f2)] rfl (by (try simp only [List.map_toArray, List.map_cons, List.map_nil]); first | done | rfl | (simp only [List.length_drop, List.length_take]; rfl)) ?_; (with_reducible refine (spec_idIdentifier.calls k1 ((rd_T30 l2 x17_1).f1) ((rd_T30 l2 x17_1).f2) t150 _ (show DoorU _ from ?side1) A10.out).mono ?_); (case side1 => exact Stays.below hT_ (by first | (repeat (first | (with_reducible first | exact HB.out | apply below_alloc | apply pw_below_drewN | apply below_drew1 | refine below_set ?_ GE149.out) | exact HB.out)) | (repeat (first | exact Below.refl _ _ | apply below_drew1 | apply pw_below_drewN)))); rintro e w20 ⟨rfl, hb⟩; refine ⟨_, rfl, ?_⟩; have n0_ := Aside0.mk (blk_below (g := gb149) (o := .cells #[.int .u8 ((rd_T30 l2 x17_1).f0), .string ((rd_T30 l2 x17_1).f1), .int .u64 ((rd_T30 l2 x17_1).f2)] 30 (0, 0)) (by (with_reducible repeat (first | refine blk_drewN ?_ _ | refine blk_drew ?_ | refine blk_alloc ?_ _)); refine blk_put (cs := #[.int .u8 ((rd_T30 l2 x17_1).f0), .string ((rd_T30 l2 x17_1).f1), .int .u64 0]) ?_ 2 _ rfl; (with_reducible repeat (first | refine blk_drewN ?_ _ | refine blk_drew ?_ | refine blk_alloc ?_ _)); refine blk_put (cs := #[.int .u8 ((rd_T30 l2 x17_1).f0), .string (⟨#[]⟩ : ByteArray), .int .u64 0]) ?_ 1 _ rfl; (with_reducible repeat (first | refine blk_drewN ?_ _ | refine blk_drew ?_ | refine blk_alloc ?_ _)); refine blk_put (cs := #[.int .u8 0, .string (⟨#[]⟩ : ByteArray), .int .u64 0]) ?_ 0 _ rfl; (with_reducible repeat (first | refine blk_drewN ?_ _ | refine blk_drew ?_ | refine blk_alloc ?_ _)); exact BK149.out) hb); have n1_ := Aside0.mk (below_step (by repeat (first | (with_reducible first | exact HB.out | apply below_alloc | apply pw_below_drewN | apply below_drew1 | refine below_set ?_ GE149.out) | exact HB.out)) hb); clear BK149; clear HB; have BK149 := n0_; have HB := n1_; clear n0_ n1_; (try clear hb); (try clear hb2); (try clear hk); (try clear hi); have hcz21_0 : w20.cell? ⟨gb149, 0, none⟩ = some (.int .u8 ((rd_T30 l2 x17_1).f0)) := (blk_cell BK149.out 0).trans rfl; have hcz21_1 : w20.cell? ⟨gb149, 1, none⟩ = some (.string ((rd_T30 l2 x17_1).f1)) := (blk_cell BK149.out 1).trans rfl; have hcz21_2 : w20.cell? ⟨gb149, 2, none⟩ = some (.int .u64 ((rd_T30 l2 x17_1).f2)) := (blk_cell BK149.out 2).trans rfl; have hfz21_0 := blk_frozen BK149.out 0; have hfz21_1 := blk_frozen BK149.out 1; have hfz21_2 := blk_frozen BK149.out 2) | ((with_reducible refine gate_callee (f := 13) rfl ?_); refine goesL_ (some 39) rfl rfl Tryz.func13 (by kernel_rfl) rfl #[.int .u64 ((rd_T30 l2 x17_1).f2)] rfl (by (try simp only [List.map_toArray, List.map_cons, List.map_nil]); first | done | rfl | (simp only [List.length_drop, List.length_take]; rfl)) ?_; (with_reducible refine (spec_IdDisambiguator.calls k1 ((rd_T30 l2 x17_1).f2) t151 _ A13.out).mono ?_); rintro e w' ⟨rfl, ⟨nd, rfl⟩⟩; refine ⟨_, rfl, ?_⟩))
                          go_roundg k1
                          case measure => have := HK1.out; omega
                          case rel => exact ⟨((((⟨#[78]⟩ : ByteArray) ++ (Utf8.encode (wrap32 ((rd_T30 l2 x17_1).f0)))) ++ x7_1) ++ (t151 ++ (⟨#[48]⟩ : ByteArray))), (wrap64 (x17_1 + 1)), (by first | rfl | (simp; done) | (simp [*]; done)), (by first | rfl | (simp; done) | (simp [*]; done)), H', ⟨by have := HK1.out; omega⟩, ⟨by repeat (first | (with_reducible first | exact HB.out | apply below_alloc | apply pw_below_drewN | apply below_drew1 | refine below_set ?_ GE149.out) | exact HB.out)⟩⟩
                        · rw [if_neg c17] at H
                          exact absurd H (by simp)
                      · rw [if_neg c16] at H
                        exact absurd H (by simp)
                    · rw [if_neg c15] at H
                      exact absurd H (by simp)
                  · rw [if_neg c14] at H
                    exact absurd H (by simp)
                · rw [if_neg c12] at H
                  have c12b0 : (x17_1 == (wrap64 ((l2.length : Int) - 1))) = false := beq_eq_false_iff_ne.mpr c12
                  have c12b1 : (x17_1 != (wrap64 ((l2.length : Int) - 1))) = true := bne_iff_ne.mpr c12
                  by_cases c22 : 1 + (Utf8.encode (wrap32 ((rd_T30 l2 x17_1).f0))).size ≤ 9223372036854775807
                  · rw [if_pos c22] at H
                    have c22b0 := eq_true c22
                    have c22b1 : decide (1 + (Utf8.encode (wrap32 ((rd_T30 l2 x17_1).f0))).size ≤ 9223372036854775807) = true := decide_eq_true c22
                    try have c22b2 : (9223372036854775807 < 1 + (Utf8.encode (wrap32 ((rd_T30 l2 x17_1).f0))).size) = False := eq_false (Nat.not_lt.2 c22)
                    by_cases c23 : ((⟨#[78]⟩ : ByteArray) ++ (Utf8.encode (wrap32 ((rd_T30 l2 x17_1).f0)))).size + x7_1.size ≤ 9223372036854775807
                    · rw [if_pos c23] at H
                      have c23b0 := eq_true c23
                      have c23b1 : decide (((⟨#[78]⟩ : ByteArray) ++ (Utf8.encode (wrap32 ((rd_T30 l2 x17_1).f0)))).size + x7_1.size ≤ 9223372036854775807) = true := decide_eq_true c23
                      try have c23b2 : (9223372036854775807 < ((⟨#[78]⟩ : ByteArray) ++ (Utf8.encode (wrap32 ((rd_T30 l2 x17_1).f0)))).size + x7_1.size) = False := eq_false (Nat.not_lt.2 c23)
                      try have c23b4 : (9223372036854775807 < 1 + (Utf8.encode (wrap32 ((rd_T30 l2 x17_1).f0))).size + x7_1.size) = False := eq_false (by have h_ := c23; (repeat rw [ByteArray.size_append] at h_); exact Nat.not_lt.2 h_)
                      by_cases c24 : (((⟨#[78]⟩ : ByteArray) ++ (Utf8.encode (wrap32 ((rd_T30 l2 x17_1).f0)))) ++ x7_1).size + t150.size ≤ 9223372036854775807
                      · rw [if_pos c24] at H
                        have c24b0 := eq_true c24
                        have c24b1 : decide ((((⟨#[78]⟩ : ByteArray) ++ (Utf8.encode (wrap32 ((rd_T30 l2 x17_1).f0)))) ++ x7_1).size + t150.size ≤ 9223372036854775807) = true := decide_eq_true c24
                        try have c24b2 : (9223372036854775807 < (((⟨#[78]⟩ : ByteArray) ++ (Utf8.encode (wrap32 ((rd_T30 l2 x17_1).f0)))) ++ x7_1).size + t150.size) = False := eq_false (Nat.not_lt.2 c24)
                        try have c24b4 : (9223372036854775807 < 1 + (Utf8.encode (wrap32 ((rd_T30 l2 x17_1).f0))).size + x7_1.size + t150.size) = False := eq_false (by have h_ := c24; (repeat rw [ByteArray.size_append] at h_); exact Nat.not_lt.2 h_)
                        have H' := Aside0.mk H
                        clear H
                        have p148 : 0 ≤ (x17_1 : Int) := of_decide_eq_true (by first | (with_reducible assumption) | assumption)
                        have q148 : x17_1 < (l2.length : Int) := of_decide_eq_true (by first | (with_reducible assumption) | assumption)
                        obtain ⟨ad148, e148, hx148_0, hx148_1, hx148_2⟩ := at_T30 HR2.out x17_1 p148 q148
                        cases e148
                        replace hx148_0 := (HB.out.cell (World.block_lt_of_cell? w _ hx148_0)).trans hx148_0
                        replace hx148_1 := (HB.out.cell (World.block_lt_of_cell? w _ hx148_1)).trans hx148_1
                        replace hx148_2 := (HB.out.cell (World.block_lt_of_cell? w _ hx148_2)).trans hx148_2
                        replace p148 := eq_true p148
                        replace q148 := eq_true q148
                        go_wp2_with (first | ((with_reducible refine gate_dst (N := 9) rfl ?_); (try (refine gate_guard (by rfl) ?_; dsimp only)); refine box_event ?hg (N := 9) ?hd (cs := #[.int .u8 0, .string (⟨#[]⟩ : ByteArray), .int .u64 0]) (t := 30) ?hr ?_; (case hd => rfl); (case hg => rfl); (case hr => first | (go_simp; done) | (go_simp; rfl)); intro gb149 hg w25 hbox hb; have n0_ := Aside0.mk (below_step (by repeat (first | (with_reducible first | exact HB.out | apply below_alloc | apply pw_below_drewN | apply below_drew1) | exact HB.out)) hb); have n1_ := Aside0.mk (hbox); have n2_ := Aside0.mk ((by rw [hg]; exact (below_size (by repeat (first | (with_reducible first | exact HB.out | apply below_alloc | apply pw_below_drewN | apply below_drew1) | exact HB.out))) : w.heap.size ≤ gb149)); have n3_ := Aside0.mk ((by rw [hg]; exact (below_size (by repeat (first | (with_reducible first | exact HB.out | apply below_alloc | apply pw_below_drewN | apply below_drew1) | exact HB.out))) : w.heap.size ≤ gb149)); clear HB; have HB := n0_; have BK149 := n1_; have GW149 := n2_; have GE149 := n3_; clear n0_ n1_ n2_ n3_; clear hb hbox hg; have hcz26_0 : w25.cell? ⟨gb149, 0, none⟩ = some (.int .u8 0) := (blk_cell BK149.out 0).trans rfl; have hcz26_1 : w25.cell? ⟨gb149, 1, none⟩ = some (.string (⟨#[]⟩ : ByteArray)) := (blk_cell BK149.out 1).trans rfl; have hcz26_2 : w25.cell? ⟨gb149, 2, none⟩ = some (.int .u64 0) := (blk_cell BK149.out 2).trans rfl; have hfz26_0 := blk_frozen BK149.out 0; have hfz26_1 := blk_frozen BK149.out 1; have hfz26_2 := blk_frozen BK149.out 2) | ((with_reducible refine gate_callee (f := 12) rfl ?_); refine goesL_ (some 26) rfl rfl Tryz.func12 (by kernel_rfl) rfl #[.string ((rd_T30 l2 x17_1).f1), .int .u64 ((rd_T30 l2 x17_1).f2)] rfl (by (try simp only [List.map_toArray, List.map_cons, List.map_nil]); first | done | rfl | (simp only [List.length_drop, List.length_take]; rfl)) ?_; (with_reducible refine (spec_idIdentifier.calls k1 ((rd_T30 l2 x17_1).f1) ((rd_T30 l2 x17_1).f2) t150 _ (show DoorU _ from ?side1) A10.out).mono ?_); (case side1 => exact Stays.below hT_ (by first | (repeat (first | (with_reducible first | exact HB.out | apply below_alloc | apply pw_below_drewN | apply below_drew1 | refine below_set ?_ GE149.out) | exact HB.out)) | (repeat (first | exact Below.refl _ _ | apply below_drew1 | apply pw_below_drewN)))); rintro e w27 ⟨rfl, hb⟩; refine ⟨_, rfl, ?_⟩; have n0_ := Aside0.mk (blk_below (g := gb149) (o := .cells #[.int .u8 ((rd_T30 l2 x17_1).f0), .string ((rd_T30 l2 x17_1).f1), .int .u64 ((rd_T30 l2 x17_1).f2)] 30 (0, 0)) (by (with_reducible repeat (first | refine blk_drewN ?_ _ | refine blk_drew ?_ | refine blk_alloc ?_ _)); refine blk_put (cs := #[.int .u8 ((rd_T30 l2 x17_1).f0), .string ((rd_T30 l2 x17_1).f1), .int .u64 0]) ?_ 2 _ rfl; (with_reducible repeat (first | refine blk_drewN ?_ _ | refine blk_drew ?_ | refine blk_alloc ?_ _)); refine blk_put (cs := #[.int .u8 ((rd_T30 l2 x17_1).f0), .string (⟨#[]⟩ : ByteArray), .int .u64 0]) ?_ 1 _ rfl; (with_reducible repeat (first | refine blk_drewN ?_ _ | refine blk_drew ?_ | refine blk_alloc ?_ _)); refine blk_put (cs := #[.int .u8 0, .string (⟨#[]⟩ : ByteArray), .int .u64 0]) ?_ 0 _ rfl; (with_reducible repeat (first | refine blk_drewN ?_ _ | refine blk_drew ?_ | refine blk_alloc ?_ _)); exact BK149.out) hb); have n1_ := Aside0.mk (below_step (by repeat (first | (with_reducible first | exact HB.out | apply below_alloc | apply pw_below_drewN | apply below_drew1 | refine below_set ?_ GE149.out) | exact HB.out)) hb); clear BK149; clear HB; have BK149 := n0_; have HB := n1_; clear n0_ n1_; (try clear hb); (try clear hb2); (try clear hk); (try clear hi); have hcz28_0 : w27.cell? ⟨gb149, 0, none⟩ = some (.int .u8 ((rd_T30 l2 x17_1).f0)) := (blk_cell BK149.out 0).trans rfl; have hcz28_1 : w27.cell? ⟨gb149, 1, none⟩ = some (.string ((rd_T30 l2 x17_1).f1)) := (blk_cell BK149.out 1).trans rfl; have hcz28_2 : w27.cell? ⟨gb149, 2, none⟩ = some (.int .u64 ((rd_T30 l2 x17_1).f2)) := (blk_cell BK149.out 2).trans rfl; have hfz28_0 := blk_frozen BK149.out 0; have hfz28_1 := blk_frozen BK149.out 1; have hfz28_2 := blk_frozen BK149.out 2))
                        go_roundg k1
                        case measure => have := HK1.out; omega
                        case rel => exact ⟨((((⟨#[78]⟩ : ByteArray) ++ (Utf8.encode (wrap32 ((rd_T30 l2 x17_1).f0)))) ++ x7_1) ++ t150), (wrap64 (x17_1 + 1)), (by first | rfl | (simp; done) | (simp [*]; done)), (by first | rfl | (simp; done) | (simp [*]; done)), H', ⟨by have := HK1.out; omega⟩, ⟨by repeat (first | (with_reducible first | exact HB.out | apply below_alloc | apply pw_below_drewN | apply below_drew1 | refine below_set ?_ GE149.out) | exact HB.out)⟩⟩
                      · rw [if_neg c24] at H
                        exact absurd H (by simp)
                    · rw [if_neg c23] at H
                      exact absurd H (by simp)
                  · rw [if_neg c22] at H
                    exact absurd H (by simp)
              · rw [if_neg c11] at H
                have c11b0 : (((rd_T30 l2 x17_1).f1).toList == ([] : List UInt8)) = false := beq_eq_false_iff_ne.mpr c11
                have c11b1 : (((rd_T30 l2 x17_1).f1).toList != ([] : List UInt8)) = true := bne_iff_ne.mpr c11
                by_cases c29 : 1 + (Utf8.encode (wrap32 ((rd_T30 l2 x17_1).f0))).size ≤ 9223372036854775807
                · rw [if_pos c29] at H
                  have c29b0 := eq_true c29
                  have c29b1 : decide (1 + (Utf8.encode (wrap32 ((rd_T30 l2 x17_1).f0))).size ≤ 9223372036854775807) = true := decide_eq_true c29
                  try have c29b2 : (9223372036854775807 < 1 + (Utf8.encode (wrap32 ((rd_T30 l2 x17_1).f0))).size) = False := eq_false (Nat.not_lt.2 c29)
                  by_cases c30 : ((⟨#[78]⟩ : ByteArray) ++ (Utf8.encode (wrap32 ((rd_T30 l2 x17_1).f0)))).size + x7_1.size ≤ 9223372036854775807
                  · rw [if_pos c30] at H
                    have c30b0 := eq_true c30
                    have c30b1 : decide (((⟨#[78]⟩ : ByteArray) ++ (Utf8.encode (wrap32 ((rd_T30 l2 x17_1).f0)))).size + x7_1.size ≤ 9223372036854775807) = true := decide_eq_true c30
                    try have c30b2 : (9223372036854775807 < ((⟨#[78]⟩ : ByteArray) ++ (Utf8.encode (wrap32 ((rd_T30 l2 x17_1).f0)))).size + x7_1.size) = False := eq_false (Nat.not_lt.2 c30)
                    try have c30b4 : (9223372036854775807 < 1 + (Utf8.encode (wrap32 ((rd_T30 l2 x17_1).f0))).size + x7_1.size) = False := eq_false (by have h_ := c30; (repeat rw [ByteArray.size_append] at h_); exact Nat.not_lt.2 h_)
                    by_cases c31 : (((⟨#[78]⟩ : ByteArray) ++ (Utf8.encode (wrap32 ((rd_T30 l2 x17_1).f0)))) ++ x7_1).size + t150.size ≤ 9223372036854775807
                    · rw [if_pos c31] at H
                      have c31b0 := eq_true c31
                      have c31b1 : decide ((((⟨#[78]⟩ : ByteArray) ++ (Utf8.encode (wrap32 ((rd_T30 l2 x17_1).f0)))) ++ x7_1).size + t150.size ≤ 9223372036854775807) = true := decide_eq_true c31
                      try have c31b2 : (9223372036854775807 < (((⟨#[78]⟩ : ByteArray) ++ (Utf8.encode (wrap32 ((rd_T30 l2 x17_1).f0)))) ++ x7_1).size + t150.size) = False := eq_false (Nat.not_lt.2 c31)
                      try have c31b4 : (9223372036854775807 < 1 + (Utf8.encode (wrap32 ((rd_T30 l2 x17_1).f0))).size + x7_1.size + t150.size) = False := eq_false (by have h_ := c31; (repeat rw [ByteArray.size_append] at h_); exact Nat.not_lt.2 h_)
                      have H' := Aside0.mk H
                      clear H
                      have p148 : 0 ≤ (x17_1 : Int) := of_decide_eq_true (by first | (with_reducible assumption) | assumption)
                      have q148 : x17_1 < (l2.length : Int) := of_decide_eq_true (by first | (with_reducible assumption) | assumption)
                      obtain ⟨ad148, e148, hx148_0, hx148_1, hx148_2⟩ := at_T30 HR2.out x17_1 p148 q148
                      cases e148
                      replace hx148_0 := (HB.out.cell (World.block_lt_of_cell? w _ hx148_0)).trans hx148_0
                      replace hx148_1 := (HB.out.cell (World.block_lt_of_cell? w _ hx148_1)).trans hx148_1
                      replace hx148_2 := (HB.out.cell (World.block_lt_of_cell? w _ hx148_2)).trans hx148_2
                      replace p148 := eq_true p148
                      replace q148 := eq_true q148
                      go_wp2_with (first | ((with_reducible refine gate_dst (N := 9) rfl ?_); (try (refine gate_guard (by rfl) ?_; dsimp only)); refine box_event ?hg (N := 9) ?hd (cs := #[.int .u8 0, .string (⟨#[]⟩ : ByteArray), .int .u64 0]) (t := 30) ?hr ?_; (case hd => rfl); (case hg => rfl); (case hr => first | (go_simp; done) | (go_simp; rfl)); intro gb149 hg w32 hbox hb; have n0_ := Aside0.mk (below_step (by repeat (first | (with_reducible first | exact HB.out | apply below_alloc | apply pw_below_drewN | apply below_drew1) | exact HB.out)) hb); have n1_ := Aside0.mk (hbox); have n2_ := Aside0.mk ((by rw [hg]; exact (below_size (by repeat (first | (with_reducible first | exact HB.out | apply below_alloc | apply pw_below_drewN | apply below_drew1) | exact HB.out))) : w.heap.size ≤ gb149)); have n3_ := Aside0.mk ((by rw [hg]; exact (below_size (by repeat (first | (with_reducible first | exact HB.out | apply below_alloc | apply pw_below_drewN | apply below_drew1) | exact HB.out))) : w.heap.size ≤ gb149)); clear HB; have HB := n0_; have BK149 := n1_; have GW149 := n2_; have GE149 := n3_; clear n0_ n1_ n2_ n3_; clear hb hbox hg; have hcz33_0 : w32.cell? ⟨gb149, 0, none⟩ = some (.int .u8 0) := (blk_cell BK149.out 0).trans rfl; have hcz33_1 : w32.cell? ⟨gb149, 1, none⟩ = some (.string (⟨#[]⟩ : ByteArray)) := (blk_cell BK149.out 1).trans rfl; have hcz33_2 : w32.cell? ⟨gb149, 2, none⟩ = some (.int .u64 0) := (blk_cell BK149.out 2).trans rfl; have hfz33_0 := blk_frozen BK149.out 0; have hfz33_1 := blk_frozen BK149.out 1; have hfz33_2 := blk_frozen BK149.out 2) | ((with_reducible refine gate_callee (f := 12) rfl ?_); refine goesL_ (some 26) rfl rfl Tryz.func12 (by kernel_rfl) rfl #[.string ((rd_T30 l2 x17_1).f1), .int .u64 ((rd_T30 l2 x17_1).f2)] rfl (by (try simp only [List.map_toArray, List.map_cons, List.map_nil]); first | done | rfl | (simp only [List.length_drop, List.length_take]; rfl)) ?_; (with_reducible refine (spec_idIdentifier.calls k1 ((rd_T30 l2 x17_1).f1) ((rd_T30 l2 x17_1).f2) t150 _ (show DoorU _ from ?side1) A10.out).mono ?_); (case side1 => exact Stays.below hT_ (by first | (repeat (first | (with_reducible first | exact HB.out | apply below_alloc | apply pw_below_drewN | apply below_drew1 | refine below_set ?_ GE149.out) | exact HB.out)) | (repeat (first | exact Below.refl _ _ | apply below_drew1 | apply pw_below_drewN)))); rintro e w34 ⟨rfl, hb⟩; refine ⟨_, rfl, ?_⟩; have n0_ := Aside0.mk (blk_below (g := gb149) (o := .cells #[.int .u8 ((rd_T30 l2 x17_1).f0), .string ((rd_T30 l2 x17_1).f1), .int .u64 ((rd_T30 l2 x17_1).f2)] 30 (0, 0)) (by (with_reducible repeat (first | refine blk_drewN ?_ _ | refine blk_drew ?_ | refine blk_alloc ?_ _)); refine blk_put (cs := #[.int .u8 ((rd_T30 l2 x17_1).f0), .string ((rd_T30 l2 x17_1).f1), .int .u64 0]) ?_ 2 _ rfl; (with_reducible repeat (first | refine blk_drewN ?_ _ | refine blk_drew ?_ | refine blk_alloc ?_ _)); refine blk_put (cs := #[.int .u8 ((rd_T30 l2 x17_1).f0), .string (⟨#[]⟩ : ByteArray), .int .u64 0]) ?_ 1 _ rfl; (with_reducible repeat (first | refine blk_drewN ?_ _ | refine blk_drew ?_ | refine blk_alloc ?_ _)); refine blk_put (cs := #[.int .u8 0, .string (⟨#[]⟩ : ByteArray), .int .u64 0]) ?_ 0 _ rfl; (with_reducible repeat (first | refine blk_drewN ?_ _ | refine blk_drew ?_ | refine blk_alloc ?_ _)); exact BK149.out) hb); have n1_ := Aside0.mk (below_step (by repeat (first | (with_reducible first | exact HB.out | apply below_alloc | apply pw_below_drewN | apply below_drew1 | refine below_set ?_ GE149.out) | exact HB.out)) hb); clear BK149; clear HB; have BK149 := n0_; have HB := n1_; clear n0_ n1_; (try clear hb); (try clear hb2); (try clear hk); (try clear hi); have hcz35_0 : w34.cell? ⟨gb149, 0, none⟩ = some (.int .u8 ((rd_T30 l2 x17_1).f0)) := (blk_cell BK149.out 0).trans rfl; have hcz35_1 : w34.cell? ⟨gb149, 1, none⟩ = some (.string ((rd_T30 l2 x17_1).f1)) := (blk_cell BK149.out 1).trans rfl; have hcz35_2 : w34.cell? ⟨gb149, 2, none⟩ = some (.int .u64 ((rd_T30 l2 x17_1).f2)) := (blk_cell BK149.out 2).trans rfl; have hfz35_0 := blk_frozen BK149.out 0; have hfz35_1 := blk_frozen BK149.out 1; have hfz35_2 := blk_frozen BK149.out 2))
                      go_roundg k1
                      case measure => have := HK1.out; omega
                      case rel => exact ⟨((((⟨#[78]⟩ : ByteArray) ++ (Utf8.encode (wrap32 ((rd_T30 l2 x17_1).f0)))) ++ x7_1) ++ t150), (wrap64 (x17_1 + 1)), (by first | rfl | (simp; done) | (simp [*]; done)), (by first | rfl | (simp; done) | (simp [*]; done)), H', ⟨by have := HK1.out; omega⟩, ⟨by repeat (first | (with_reducible first | exact HB.out | apply below_alloc | apply pw_below_drewN | apply below_drew1 | refine below_set ?_ GE149.out) | exact HB.out)⟩⟩
                    · rw [if_neg c31] at H
                      exact absurd H (by simp)
                  · rw [if_neg c30] at H
                    exact absurd H (by simp)
                · rw [if_neg c29] at H
                  exact absurd H (by simp)
            · rw [if_neg c9] at H
              exact absurd H (by simp)
          · rw [if_neg c8] at H
            exact absurd H (by simp)
        · rw [if_neg c7] at H
          have c7b0 : decide (x17_1 < (l2.length : Int)) = false := decide_eq_false c7
          clear c7
          obtain rfl := Option.some.inj H
          go_wp2
          go_ret
          exact ⟨by first | rfl | (simp [errW_none, errW_some] <;> rfl) | (simp [*, errW_none, errW_some] <;> rfl), by repeat (first | (with_reducible first | exact HB.out | apply below_alloc | apply pw_below_drewN | apply below_drew1) | exact HB.out)⟩
  · rw [if_neg c5] at H
    exact absurd H (by simp)

/-! ### spec_IdText: function 9 -/
def spec_IdText.l0 : Nat → ByteArray → List (S30) → Int → Int → Option (ByteArray)
  | 0, _, _, _, _ => none
  | k + 1, x5, x10, x11, x12 => if x12 < x11 then (if 0 ≤ x12 then (if x12 < (x10.length : Int) then (if ((rd_T30 x10 x12).f0) ≥ 97 then (if 2 + ((rd_T30 x10 x12).f1).size ≤ 9223372036854775807 then (if x5.size + ((⟨#[58, 58]⟩ : ByteArray) ++ ((rd_T30 x10 x12).f1)).size ≤ 9223372036854775807 then (spec_IdText.l0 k (x5 ++ ((⟨#[58, 58]⟩ : ByteArray) ++ ((rd_T30 x10 x12).f1))) x10 x11 (wrap64 (x12 + 1))) else (none)) else (none)) else (if ((rd_T30 x10 x12).f0) = 67 then (if ((rd_T30 x10 x12).f1).toList = ([] : List UInt8) then (if 3 + 7 ≤ 9223372036854775807 then (if 9 + 1 ≤ 9223372036854775807 then ((strconv_FormatUint.f ((rd_T30 x10 x12).f2) 10).bind fun t154 => (if (((⟨#[58, 58, 123]⟩ : ByteArray) ++ (⟨#[99, 108, 111, 115, 117, 114, 101]⟩ : ByteArray)) ++ (⟨#[35]⟩ : ByteArray)).size + t154.size ≤ 9223372036854775807 then (if ((((⟨#[58, 58, 123]⟩ : ByteArray) ++ (⟨#[99, 108, 111, 115, 117, 114, 101]⟩ : ByteArray)) ++ (⟨#[35]⟩ : ByteArray)) ++ t154).size + 1 ≤ 9223372036854775807 then (if x5.size + (((((⟨#[58, 58, 123]⟩ : ByteArray) ++ (⟨#[99, 108, 111, 115, 117, 114, 101]⟩ : ByteArray)) ++ (⟨#[35]⟩ : ByteArray)) ++ t154) ++ (⟨#[125]⟩ : ByteArray)).size ≤ 9223372036854775807 then (spec_IdText.l0 k (x5 ++ (((((⟨#[58, 58, 123]⟩ : ByteArray) ++ (⟨#[99, 108, 111, 115, 117, 114, 101]⟩ : ByteArray)) ++ (⟨#[35]⟩ : ByteArray)) ++ t154) ++ (⟨#[125]⟩ : ByteArray))) x10 x11 (wrap64 (x12 + 1))) else (none)) else (none)) else (none))) else (none)) else (none)) else (if 1 + ((rd_T30 x10 x12).f1).size ≤ 9223372036854775807 then (if 7 + ((⟨#[58]⟩ : ByteArray) ++ ((rd_T30 x10 x12).f1)).size ≤ 9223372036854775807 then (if 3 + ((⟨#[99, 108, 111, 115, 117, 114, 101]⟩ : ByteArray) ++ ((⟨#[58]⟩ : ByteArray) ++ ((rd_T30 x10 x12).f1))).size ≤ 9223372036854775807 then (if ((⟨#[58, 58, 123]⟩ : ByteArray) ++ ((⟨#[99, 108, 111, 115, 117, 114, 101]⟩ : ByteArray) ++ ((⟨#[58]⟩ : ByteArray) ++ ((rd_T30 x10 x12).f1)))).size + 1 ≤ 9223372036854775807 then ((strconv_FormatUint.f ((rd_T30 x10 x12).f2) 10).bind fun t155 => (if (((⟨#[58, 58, 123]⟩ : ByteArray) ++ ((⟨#[99, 108, 111, 115, 117, 114, 101]⟩ : ByteArray) ++ ((⟨#[58]⟩ : ByteArray) ++ ((rd_T30 x10 x12).f1)))) ++ (⟨#[35]⟩ : ByteArray)).size + t155.size ≤ 9223372036854775807 then (if ((((⟨#[58, 58, 123]⟩ : ByteArray) ++ ((⟨#[99, 108, 111, 115, 117, 114, 101]⟩ : ByteArray) ++ ((⟨#[58]⟩ : ByteArray) ++ ((rd_T30 x10 x12).f1)))) ++ (⟨#[35]⟩ : ByteArray)) ++ t155).size + 1 ≤ 9223372036854775807 then (if x5.size + (((((⟨#[58, 58, 123]⟩ : ByteArray) ++ ((⟨#[99, 108, 111, 115, 117, 114, 101]⟩ : ByteArray) ++ ((⟨#[58]⟩ : ByteArray) ++ ((rd_T30 x10 x12).f1)))) ++ (⟨#[35]⟩ : ByteArray)) ++ t155) ++ (⟨#[125]⟩ : ByteArray)).size ≤ 9223372036854775807 then (spec_IdText.l0 k (x5 ++ (((((⟨#[58, 58, 123]⟩ : ByteArray) ++ ((⟨#[99, 108, 111, 115, 117, 114, 101]⟩ : ByteArray) ++ ((⟨#[58]⟩ : ByteArray) ++ ((rd_T30 x10 x12).f1)))) ++ (⟨#[35]⟩ : ByteArray)) ++ t155) ++ (⟨#[125]⟩ : ByteArray))) x10 x11 (wrap64 (x12 + 1))) else (none)) else (none)) else (none))) else (none)) else (none)) else (none)) else (none))) else (if ((rd_T30 x10 x12).f0) = 83 then (if ((rd_T30 x10 x12).f1).toList = ([] : List UInt8) then (if 3 + 4 ≤ 9223372036854775807 then (if 6 + 1 ≤ 9223372036854775807 then ((strconv_FormatUint.f ((rd_T30 x10 x12).f2) 10).bind fun t156 => (if (((⟨#[58, 58, 123]⟩ : ByteArray) ++ (⟨#[115, 104, 105, 109]⟩ : ByteArray)) ++ (⟨#[35]⟩ : ByteArray)).size + t156.size ≤ 9223372036854775807 then (if ((((⟨#[58, 58, 123]⟩ : ByteArray) ++ (⟨#[115, 104, 105, 109]⟩ : ByteArray)) ++ (⟨#[35]⟩ : ByteArray)) ++ t156).size + 1 ≤ 9223372036854775807 then (if x5.size + (((((⟨#[58, 58, 123]⟩ : ByteArray) ++ (⟨#[115, 104, 105, 109]⟩ : ByteArray)) ++ (⟨#[35]⟩ : ByteArray)) ++ t156) ++ (⟨#[125]⟩ : ByteArray)).size ≤ 9223372036854775807 then (spec_IdText.l0 k (x5 ++ (((((⟨#[58, 58, 123]⟩ : ByteArray) ++ (⟨#[115, 104, 105, 109]⟩ : ByteArray)) ++ (⟨#[35]⟩ : ByteArray)) ++ t156) ++ (⟨#[125]⟩ : ByteArray))) x10 x11 (wrap64 (x12 + 1))) else (none)) else (none)) else (none))) else (none)) else (none)) else (if 1 + ((rd_T30 x10 x12).f1).size ≤ 9223372036854775807 then (if 4 + ((⟨#[58]⟩ : ByteArray) ++ ((rd_T30 x10 x12).f1)).size ≤ 9223372036854775807 then (if 3 + ((⟨#[115, 104, 105, 109]⟩ : ByteArray) ++ ((⟨#[58]⟩ : ByteArray) ++ ((rd_T30 x10 x12).f1))).size ≤ 9223372036854775807 then (if ((⟨#[58, 58, 123]⟩ : ByteArray) ++ ((⟨#[115, 104, 105, 109]⟩ : ByteArray) ++ ((⟨#[58]⟩ : ByteArray) ++ ((rd_T30 x10 x12).f1)))).size + 1 ≤ 9223372036854775807 then ((strconv_FormatUint.f ((rd_T30 x10 x12).f2) 10).bind fun t157 => (if (((⟨#[58, 58, 123]⟩ : ByteArray) ++ ((⟨#[115, 104, 105, 109]⟩ : ByteArray) ++ ((⟨#[58]⟩ : ByteArray) ++ ((rd_T30 x10 x12).f1)))) ++ (⟨#[35]⟩ : ByteArray)).size + t157.size ≤ 9223372036854775807 then (if ((((⟨#[58, 58, 123]⟩ : ByteArray) ++ ((⟨#[115, 104, 105, 109]⟩ : ByteArray) ++ ((⟨#[58]⟩ : ByteArray) ++ ((rd_T30 x10 x12).f1)))) ++ (⟨#[35]⟩ : ByteArray)) ++ t157).size + 1 ≤ 9223372036854775807 then (if x5.size + (((((⟨#[58, 58, 123]⟩ : ByteArray) ++ ((⟨#[115, 104, 105, 109]⟩ : ByteArray) ++ ((⟨#[58]⟩ : ByteArray) ++ ((rd_T30 x10 x12).f1)))) ++ (⟨#[35]⟩ : ByteArray)) ++ t157) ++ (⟨#[125]⟩ : ByteArray)).size ≤ 9223372036854775807 then (spec_IdText.l0 k (x5 ++ (((((⟨#[58, 58, 123]⟩ : ByteArray) ++ ((⟨#[115, 104, 105, 109]⟩ : ByteArray) ++ ((⟨#[58]⟩ : ByteArray) ++ ((rd_T30 x10 x12).f1)))) ++ (⟨#[35]⟩ : ByteArray)) ++ t157) ++ (⟨#[125]⟩ : ByteArray))) x10 x11 (wrap64 (x12 + 1))) else (none)) else (none)) else (none))) else (none)) else (none)) else (none)) else (none))) else (if ((rd_T30 x10 x12).f1).toList = ([] : List UInt8) then (if 3 + (Utf8.encode (wrap32 ((rd_T30 x10 x12).f0))).size ≤ 9223372036854775807 then (if ((⟨#[58, 58, 123]⟩ : ByteArray) ++ (Utf8.encode (wrap32 ((rd_T30 x10 x12).f0)))).size + 1 ≤ 9223372036854775807 then ((strconv_FormatUint.f ((rd_T30 x10 x12).f2) 10).bind fun t158 => (if (((⟨#[58, 58, 123]⟩ : ByteArray) ++ (Utf8.encode (wrap32 ((rd_T30 x10 x12).f0)))) ++ (⟨#[35]⟩ : ByteArray)).size + t158.size ≤ 9223372036854775807 then (if ((((⟨#[58, 58, 123]⟩ : ByteArray) ++ (Utf8.encode (wrap32 ((rd_T30 x10 x12).f0)))) ++ (⟨#[35]⟩ : ByteArray)) ++ t158).size + 1 ≤ 9223372036854775807 then (if x5.size + (((((⟨#[58, 58, 123]⟩ : ByteArray) ++ (Utf8.encode (wrap32 ((rd_T30 x10 x12).f0)))) ++ (⟨#[35]⟩ : ByteArray)) ++ t158) ++ (⟨#[125]⟩ : ByteArray)).size ≤ 9223372036854775807 then (spec_IdText.l0 k (x5 ++ (((((⟨#[58, 58, 123]⟩ : ByteArray) ++ (Utf8.encode (wrap32 ((rd_T30 x10 x12).f0)))) ++ (⟨#[35]⟩ : ByteArray)) ++ t158) ++ (⟨#[125]⟩ : ByteArray))) x10 x11 (wrap64 (x12 + 1))) else (none)) else (none)) else (none))) else (none)) else (none)) else (if 1 + ((rd_T30 x10 x12).f1).size ≤ 9223372036854775807 then (if (Utf8.encode (wrap32 ((rd_T30 x10 x12).f0))).size + ((⟨#[58]⟩ : ByteArray) ++ ((rd_T30 x10 x12).f1)).size ≤ 9223372036854775807 then (if 3 + ((Utf8.encode (wrap32 ((rd_T30 x10 x12).f0))) ++ ((⟨#[58]⟩ : ByteArray) ++ ((rd_T30 x10 x12).f1))).size ≤ 9223372036854775807 then (if ((⟨#[58, 58, 123]⟩ : ByteArray) ++ ((Utf8.encode (wrap32 ((rd_T30 x10 x12).f0))) ++ ((⟨#[58]⟩ : ByteArray) ++ ((rd_T30 x10 x12).f1)))).size + 1 ≤ 9223372036854775807 then ((strconv_FormatUint.f ((rd_T30 x10 x12).f2) 10).bind fun t159 => (if (((⟨#[58, 58, 123]⟩ : ByteArray) ++ ((Utf8.encode (wrap32 ((rd_T30 x10 x12).f0))) ++ ((⟨#[58]⟩ : ByteArray) ++ ((rd_T30 x10 x12).f1)))) ++ (⟨#[35]⟩ : ByteArray)).size + t159.size ≤ 9223372036854775807 then (if ((((⟨#[58, 58, 123]⟩ : ByteArray) ++ ((Utf8.encode (wrap32 ((rd_T30 x10 x12).f0))) ++ ((⟨#[58]⟩ : ByteArray) ++ ((rd_T30 x10 x12).f1)))) ++ (⟨#[35]⟩ : ByteArray)) ++ t159).size + 1 ≤ 9223372036854775807 then (if x5.size + (((((⟨#[58, 58, 123]⟩ : ByteArray) ++ ((Utf8.encode (wrap32 ((rd_T30 x10 x12).f0))) ++ ((⟨#[58]⟩ : ByteArray) ++ ((rd_T30 x10 x12).f1)))) ++ (⟨#[35]⟩ : ByteArray)) ++ t159) ++ (⟨#[125]⟩ : ByteArray)).size ≤ 9223372036854775807 then (spec_IdText.l0 k (x5 ++ (((((⟨#[58, 58, 123]⟩ : ByteArray) ++ ((Utf8.encode (wrap32 ((rd_T30 x10 x12).f0))) ++ ((⟨#[58]⟩ : ByteArray) ++ ((rd_T30 x10 x12).f1)))) ++ (⟨#[35]⟩ : ByteArray)) ++ t159) ++ (⟨#[125]⟩ : ByteArray))) x10 x11 (wrap64 (x12 + 1))) else (none)) else (none)) else (none))) else (none)) else (none)) else (none)) else (none)))))) else (none)) else (none)) else (some x5)
def spec_IdText.f (k : Nat) (a0 : ByteArray) (l1 : List (S30)) : Option (ByteArray) := spec_IdText.l0 k a0 l1 (l1.length : Int) 0
theorem spec_IdText.mono_l : ∀ k, (∀ y0 y1 y2 y3, LeO (spec_IdText.l0 k y0 y1 y2 y3) (spec_IdText.l0 (k + 1) y0 y1 y2 y3))
  | 0 => fun _ _ _ _ r h => by simp [spec_IdText.l0] at h
  | k + 1 => by
    have ih0 := spec_IdText.mono_l k
    · intro y0 y1 y2 y3
      unfold spec_IdText.l0
      repeat' first
      | (with_reducible exact ih0 _ _ _ _)
      | (with_reducible exact LeO.refl _)
      | (with_reducible exact LeO.none _)
      | (with_reducible refine LeO.ite ?_ ?_)
      | (with_reducible refine LeO.bind ?_ (fun _ => ?_))
      | exact ih0 _ _ _ _
      | exact LeO.none _
      | refine LeO.ite ?_ ?_
      | refine LeO.bind ?_ (fun _ => ?_)
theorem spec_IdText.mono : ∀ a0 a1 k, LeO (spec_IdText.f k a0 a1) (spec_IdText.f (k + 1) a0 a1) := by
  intro a0 a1 k
  have ih0 := spec_IdText.mono_l k
  unfold spec_IdText.f
  repeat' first
      | (with_reducible exact ih0 _ _ _ _)
      | (with_reducible exact LeO.refl _)
      | (with_reducible exact LeO.none _)
      | (with_reducible refine LeO.ite ?_ ?_)
      | (with_reducible refine LeO.bind ?_ (fun _ => ?_))
      | exact ih0 _ _ _ _
      | exact LeO.none _
      | refine LeO.ite ?_ ?_
      | refine LeO.bind ?_ (fun _ => ?_)
set_option maxHeartbeats 8000000 in
set_option maxRecDepth 100000 in
theorem spec_IdText.calls (k : Nat) (a0 : ByteArray) (A1 : Option Addr) (c1 : Nat) (l1 : List (S30)) (r : ByteArray) (w : World) (hr1 : Kd.C k30 w A1 l1.length l1) (hc1 : l1.length ≤ c1) (hT_ : DoorU w) (h : spec_IdText.f k a0 l1 = some r) :
    Calls Tryz.prog 9 #[.string a0, .slice A1 l1.length c1] w fun e w' => e = .returned (.string r) ∧ Below w.heap.size w w' := by
  have hu30 := Tryz.underlying30
  have HR1 := Aside0.mk hr1
  have HC1 := Aside0.mk hc1
  clear hr1 hc1
  have HB := Aside0.mk (Below.refl w.heap.size w)
  have H : (spec_IdText.l0 k a0 l1 (l1.length : Int) 0) = some r := h
  clear h
  have H' := Aside0.mk H
  clear H
  go_enter Tryz.func9, Tryz.ntmps9
  go_wp2
  go_loopg [5, 12] k (fun kq v5 v12 w' => ∃ (x5_1 : ByteArray) (x12_1 : Int), v5 = .string x5_1 ∧ v12 = .int .i64 x12_1 ∧ Aside0 (spec_IdText.l0 kq x5_1 l1 (l1.length : Int) x12_1 = some r) ∧ Aside0 (kq ≤ k) ∧ Aside0 (Below w.heap.size w w'))
  case atStart => exact ⟨(a0), (0), (by first | rfl | (simp; done) | (simp [*]; done)), (by first | rfl | (simp; done) | (simp [*]; done)), H', ⟨Nat.le_refl _⟩, ⟨by repeat (first | (with_reducible first | exact HB.out | apply below_alloc | apply pw_below_drewN | apply below_drew1) | exact HB.out)⟩⟩
  case round =>
    clear H'
    try clear c1
    try clear p2
    obtain ⟨x5_1, x12_1, rfl, rfl, HA, HK1, HB⟩ := hrel
    cases gk with
    | zero => exact absurd HA.out (by simp [spec_IdText.l0])
    | succ k1 =>
      have H := HA.out
      clear HA
      simp only [spec_IdText.l0] at H
      by_cases c3 : x12_1 < (l1.length : Int)
      · rw [if_pos c3] at H
        have c3b0 : decide (x12_1 < (l1.length : Int)) = true := decide_eq_true c3
        clear c3
        by_cases c4 : 0 ≤ x12_1
        · rw [if_pos c4] at H
          have c4b0 : decide (0 ≤ x12_1) = true := decide_eq_true c4
          clear c4
          by_cases c5 : x12_1 < (l1.length : Int)
          · rw [if_pos c5] at H
            have c5b0 : decide (x12_1 < (l1.length : Int)) = true := decide_eq_true c5
            clear c5
            by_cases c6 : ((rd_T30 l1 x12_1).f0) ≥ 97
            · rw [if_pos c6] at H
              have c6b0 : decide (97 ≤ ((rd_T30 l1 x12_1).f0)) = true := decide_eq_true c6
              clear c6
              by_cases c7 : 2 + ((rd_T30 l1 x12_1).f1).size ≤ 9223372036854775807
              · rw [if_pos c7] at H
                have c7b0 := eq_true c7
                have c7b1 : decide (2 + ((rd_T30 l1 x12_1).f1).size ≤ 9223372036854775807) = true := decide_eq_true c7
                try have c7b2 : (9223372036854775807 < 2 + ((rd_T30 l1 x12_1).f1).size) = False := eq_false (Nat.not_lt.2 c7)
                by_cases c8 : x5_1.size + ((⟨#[58, 58]⟩ : ByteArray) ++ ((rd_T30 l1 x12_1).f1)).size ≤ 9223372036854775807
                · rw [if_pos c8] at H
                  have c8b0 := eq_true c8
                  have c8b1 : decide (x5_1.size + ((⟨#[58, 58]⟩ : ByteArray) ++ ((rd_T30 l1 x12_1).f1)).size ≤ 9223372036854775807) = true := decide_eq_true c8
                  try have c8b2 : (9223372036854775807 < x5_1.size + ((⟨#[58, 58]⟩ : ByteArray) ++ ((rd_T30 l1 x12_1).f1)).size) = False := eq_false (Nat.not_lt.2 c8)
                  try have c8b4 : (9223372036854775807 < x5_1.size + (2 + ((rd_T30 l1 x12_1).f1).size)) = False := eq_false (by have h_ := c8; (repeat rw [ByteArray.size_append] at h_); exact Nat.not_lt.2 h_)
                  have H' := Aside0.mk H
                  clear H
                  have p152 : 0 ≤ (x12_1 : Int) := of_decide_eq_true (by first | (with_reducible assumption) | assumption)
                  have q152 : x12_1 < (l1.length : Int) := of_decide_eq_true (by first | (with_reducible assumption) | assumption)
                  obtain ⟨ad152, e152, hx152_0, hx152_1, hx152_2⟩ := at_T30 HR1.out x12_1 p152 q152
                  cases e152
                  replace hx152_0 := (HB.out.cell (World.block_lt_of_cell? w _ hx152_0)).trans hx152_0
                  replace hx152_1 := (HB.out.cell (World.block_lt_of_cell? w _ hx152_1)).trans hx152_1
                  replace hx152_2 := (HB.out.cell (World.block_lt_of_cell? w _ hx152_2)).trans hx152_2
                  replace p152 := eq_true p152
                  replace q152 := eq_true q152
                  go_wp2_with (first | ((with_reducible refine gate_dst (N := 7) rfl ?_); refine box_event ?hg (N := 7) ?hd (cs := #[.int .u8 0, .string (⟨#[]⟩ : ByteArray), .int .u64 0]) (t := 30) ?hr ?_; (case hd => rfl); (case hg => rfl); (case hr => first | (go_simp; done) | (go_simp; rfl)); intro gb153 hg w9 hbox hb; have n0_ := Aside0.mk (below_step (by repeat (first | (with_reducible first | exact HB.out | apply below_alloc | apply pw_below_drewN | apply below_drew1) | exact HB.out)) hb); have n1_ := Aside0.mk (hbox); have n2_ := Aside0.mk ((by rw [hg]; exact (below_size (by repeat (first | (with_reducible first | exact HB.out | apply below_alloc | apply pw_below_drewN | apply below_drew1) | exact HB.out))) : w.heap.size ≤ gb153)); have n3_ := Aside0.mk ((by rw [hg]; exact (below_size (by repeat (first | (with_reducible first | exact HB.out | apply below_alloc | apply pw_below_drewN | apply below_drew1) | exact HB.out))) : w.heap.size ≤ gb153)); clear HB; have HB := n0_; have BK153 := n1_; have GW153 := n2_; have GE153 := n3_; clear n0_ n1_ n2_ n3_; clear hb hbox hg; have hcz10_0 : w9.cell? ⟨gb153, 0, none⟩ = some (.int .u8 0) := (blk_cell BK153.out 0).trans rfl; have hcz10_1 : w9.cell? ⟨gb153, 1, none⟩ = some (.string (⟨#[]⟩ : ByteArray)) := (blk_cell BK153.out 1).trans rfl; have hcz10_2 : w9.cell? ⟨gb153, 2, none⟩ = some (.int .u64 0) := (blk_cell BK153.out 2).trans rfl; have hfz10_0 := blk_frozen BK153.out 0; have hfz10_1 := blk_frozen BK153.out 1; have hfz10_2 := blk_frozen BK153.out 2))
                  go_roundg k1
                  case measure => have := HK1.out; omega
                  case rel => exact ⟨(x5_1 ++ ((⟨#[58, 58]⟩ : ByteArray) ++ ((rd_T30 l1 x12_1).f1))), (wrap64 (x12_1 + 1)), (by first | rfl | (simp; done) | (simp [*]; done)), (by first | rfl | (simp; done) | (simp [*]; done)), H', ⟨by have := HK1.out; omega⟩, ⟨by repeat (first | (with_reducible first | exact HB.out | apply below_alloc | apply pw_below_drewN | apply below_drew1 | refine below_set ?_ GE153.out) | exact HB.out)⟩⟩
                · rw [if_neg c8] at H
                  exact absurd H (by simp)
              · rw [if_neg c7] at H
                exact absurd H (by simp)
            · rw [if_neg c6] at H
              have c6b0 : decide (97 ≤ ((rd_T30 l1 x12_1).f0)) = false := decide_eq_false c6
              clear c6
              by_cases c11 : ((rd_T30 l1 x12_1).f0) = 67
              · rw [if_pos c11] at H
                have c11b0 : (((rd_T30 l1 x12_1).f0) == 67) = true := beq_iff_eq.mpr c11
                have c11b1 : (((rd_T30 l1 x12_1).f0) != 67) = false := bne_eq_false_iff_eq.mpr c11
                clear c11
                by_cases c12 : ((rd_T30 l1 x12_1).f1).toList = ([] : List UInt8)
                · rw [if_pos c12] at H
                  have c12b0 : (((rd_T30 l1 x12_1).f1).toList == ([] : List UInt8)) = true := beq_iff_eq.mpr c12
                  have c12b1 : (((rd_T30 l1 x12_1).f1).toList != ([] : List UInt8)) = false := bne_eq_false_iff_eq.mpr c12
                  clear c12
                  by_cases c13 : 3 + 7 ≤ 9223372036854775807
                  · rw [if_pos c13] at H
                    have c13b0 := eq_true c13
                    have c13b1 : decide (3 + 7 ≤ 9223372036854775807) = true := decide_eq_true c13
                    try have c13b2 : (9223372036854775807 < 3 + 7) = False := eq_false (Nat.not_lt.2 c13)
                    by_cases c14 : 9 + 1 ≤ 9223372036854775807
                    · rw [if_pos c14] at H
                      have c14b0 := eq_true c14
                      have c14b1 : decide (9 + 1 ≤ 9223372036854775807) = true := decide_eq_true c14
                      try have c14b2 : (9223372036854775807 < 9 + 1) = False := eq_false (Nat.not_lt.2 c14)
                      replace H := Option.bind_eq_some_iff.mp H
                      obtain ⟨t154, A150, H⟩ := H
                      replace H : (if (((⟨#[58, 58, 123]⟩ : ByteArray) ++ (⟨#[99, 108, 111, 115, 117, 114, 101]⟩ : ByteArray)) ++ (⟨#[35]⟩ : ByteArray)).size + t154.size ≤ 9223372036854775807 then (if ((((⟨#[58, 58, 123]⟩ : ByteArray) ++ (⟨#[99, 108, 111, 115, 117, 114, 101]⟩ : ByteArray)) ++ (⟨#[35]⟩ : ByteArray)) ++ t154).size + 1 ≤ 9223372036854775807 then (if x5_1.size + (((((⟨#[58, 58, 123]⟩ : ByteArray) ++ (⟨#[99, 108, 111, 115, 117, 114, 101]⟩ : ByteArray)) ++ (⟨#[35]⟩ : ByteArray)) ++ t154) ++ (⟨#[125]⟩ : ByteArray)).size ≤ 9223372036854775807 then (spec_IdText.l0 k1 (x5_1 ++ (((((⟨#[58, 58, 123]⟩ : ByteArray) ++ (⟨#[99, 108, 111, 115, 117, 114, 101]⟩ : ByteArray)) ++ (⟨#[35]⟩ : ByteArray)) ++ t154) ++ (⟨#[125]⟩ : ByteArray))) l1 (l1.length : Int) (wrap64 (x12_1 + 1))) else (none)) else (none)) else (none)) = some r := H
                      have A15 := Aside0.mk A150
                      clear A150
                      by_cases c16 : (((⟨#[58, 58, 123]⟩ : ByteArray) ++ (⟨#[99, 108, 111, 115, 117, 114, 101]⟩ : ByteArray)) ++ (⟨#[35]⟩ : ByteArray)).size + t154.size ≤ 9223372036854775807
                      · rw [if_pos c16] at H
                        have c16b0 := eq_true c16
                        have c16b1 : decide ((((⟨#[58, 58, 123]⟩ : ByteArray) ++ (⟨#[99, 108, 111, 115, 117, 114, 101]⟩ : ByteArray)) ++ (⟨#[35]⟩ : ByteArray)).size + t154.size ≤ 9223372036854775807) = true := decide_eq_true c16
                        try have c16b2 : (9223372036854775807 < (((⟨#[58, 58, 123]⟩ : ByteArray) ++ (⟨#[99, 108, 111, 115, 117, 114, 101]⟩ : ByteArray)) ++ (⟨#[35]⟩ : ByteArray)).size + t154.size) = False := eq_false (Nat.not_lt.2 c16)
                        try have c16b4 : (9223372036854775807 < 3 + 7 + 1 + t154.size) = False := eq_false (by have h_ := c16; (repeat rw [ByteArray.size_append] at h_); exact Nat.not_lt.2 h_)
                        by_cases c17 : ((((⟨#[58, 58, 123]⟩ : ByteArray) ++ (⟨#[99, 108, 111, 115, 117, 114, 101]⟩ : ByteArray)) ++ (⟨#[35]⟩ : ByteArray)) ++ t154).size + 1 ≤ 9223372036854775807
                        · rw [if_pos c17] at H
                          have c17b0 := eq_true c17
                          have c17b1 : decide (((((⟨#[58, 58, 123]⟩ : ByteArray) ++ (⟨#[99, 108, 111, 115, 117, 114, 101]⟩ : ByteArray)) ++ (⟨#[35]⟩ : ByteArray)) ++ t154).size + 1 ≤ 9223372036854775807) = true := decide_eq_true c17
                          try have c17b2 : (9223372036854775807 < ((((⟨#[58, 58, 123]⟩ : ByteArray) ++ (⟨#[99, 108, 111, 115, 117, 114, 101]⟩ : ByteArray)) ++ (⟨#[35]⟩ : ByteArray)) ++ t154).size + 1) = False := eq_false (Nat.not_lt.2 c17)
                          try have c17b4 : (9223372036854775807 < 3 + 7 + 1 + t154.size + 1) = False := eq_false (by have h_ := c17; (repeat rw [ByteArray.size_append] at h_); exact Nat.not_lt.2 h_)
                          by_cases c18 : x5_1.size + (((((⟨#[58, 58, 123]⟩ : ByteArray) ++ (⟨#[99, 108, 111, 115, 117, 114, 101]⟩ : ByteArray)) ++ (⟨#[35]⟩ : ByteArray)) ++ t154) ++ (⟨#[125]⟩ : ByteArray)).size ≤ 9223372036854775807
                          · rw [if_pos c18] at H
                            have c18b0 := eq_true c18
                            have c18b1 : decide (x5_1.size + (((((⟨#[58, 58, 123]⟩ : ByteArray) ++ (⟨#[99, 108, 111, 115, 117, 114, 101]⟩ : ByteArray)) ++ (⟨#[35]⟩ : ByteArray)) ++ t154) ++ (⟨#[125]⟩ : ByteArray)).size ≤ 9223372036854775807) = true := decide_eq_true c18
                            try have c18b2 : (9223372036854775807 < x5_1.size + (((((⟨#[58, 58, 123]⟩ : ByteArray) ++ (⟨#[99, 108, 111, 115, 117, 114, 101]⟩ : ByteArray)) ++ (⟨#[35]⟩ : ByteArray)) ++ t154) ++ (⟨#[125]⟩ : ByteArray)).size) = False := eq_false (Nat.not_lt.2 c18)
                            try have c18b4 : (9223372036854775807 < x5_1.size + (3 + 7 + 1 + t154.size + 1)) = False := eq_false (by have h_ := c18; (repeat rw [ByteArray.size_append] at h_); exact Nat.not_lt.2 h_)
                            have H' := Aside0.mk H
                            clear H
                            have p152 : 0 ≤ (x12_1 : Int) := of_decide_eq_true (by first | (with_reducible assumption) | assumption)
                            have q152 : x12_1 < (l1.length : Int) := of_decide_eq_true (by first | (with_reducible assumption) | assumption)
                            obtain ⟨ad152, e152, hx152_0, hx152_1, hx152_2⟩ := at_T30 HR1.out x12_1 p152 q152
                            cases e152
                            replace hx152_0 := (HB.out.cell (World.block_lt_of_cell? w _ hx152_0)).trans hx152_0
                            replace hx152_1 := (HB.out.cell (World.block_lt_of_cell? w _ hx152_1)).trans hx152_1
                            replace hx152_2 := (HB.out.cell (World.block_lt_of_cell? w _ hx152_2)).trans hx152_2
                            replace p152 := eq_true p152
                            replace q152 := eq_true q152
                            go_wp2_with (first | ((with_reducible refine gate_dst (N := 7) rfl ?_); refine box_event ?hg (N := 7) ?hd (cs := #[.int .u8 0, .string (⟨#[]⟩ : ByteArray), .int .u64 0]) (t := 30) ?hr ?_; (case hd => rfl); (case hg => rfl); (case hr => first | (go_simp; done) | (go_simp; rfl)); intro gb153 hg w19 hbox hb; have n0_ := Aside0.mk (below_step (by repeat (first | (with_reducible first | exact HB.out | apply below_alloc | apply pw_below_drewN | apply below_drew1) | exact HB.out)) hb); have n1_ := Aside0.mk (hbox); have n2_ := Aside0.mk ((by rw [hg]; exact (below_size (by repeat (first | (with_reducible first | exact HB.out | apply below_alloc | apply pw_below_drewN | apply below_drew1) | exact HB.out))) : w.heap.size ≤ gb153)); have n3_ := Aside0.mk ((by rw [hg]; exact (below_size (by repeat (first | (with_reducible first | exact HB.out | apply below_alloc | apply pw_below_drewN | apply below_drew1) | exact HB.out))) : w.heap.size ≤ gb153)); clear HB; have HB := n0_; have BK153 := n1_; have GW153 := n2_; have GE153 := n3_; clear n0_ n1_ n2_ n3_; clear hb hbox hg; have hcz20_0 : w19.cell? ⟨gb153, 0, none⟩ = some (.int .u8 0) := (blk_cell BK153.out 0).trans rfl; have hcz20_1 : w19.cell? ⟨gb153, 1, none⟩ = some (.string (⟨#[]⟩ : ByteArray)) := (blk_cell BK153.out 1).trans rfl; have hcz20_2 : w19.cell? ⟨gb153, 2, none⟩ = some (.int .u64 0) := (blk_cell BK153.out 2).trans rfl; have hfz20_0 := blk_frozen BK153.out 0; have hfz20_1 := blk_frozen BK153.out 1; have hfz20_2 := blk_frozen BK153.out 2) | ((with_reducible refine gate_callee (f := 14) rfl ?_); refine goesL_ (some 48) rfl rfl Tryz.func14 (by kernel_rfl) rfl #[.int .u64 ((rd_T30 l1 x12_1).f2), .int .i64 10] rfl (by (try simp only [List.map_toArray, List.map_cons, List.map_nil]); first | done | rfl | (simp only [List.length_drop, List.length_take]; rfl)) ?_; (with_reducible refine (strconv_FormatUint.calls ((rd_T30 l1 x12_1).f2) 10 t154 _ (show DoorU _ from ?side1) A15.out).mono ?_); (case side1 => exact Stays.below hT_ (by first | (repeat (first | (with_reducible first | exact HB.out | apply below_alloc | apply pw_below_drewN | apply below_drew1 | refine below_set ?_ GE153.out) | exact HB.out)) | (repeat (first | exact Below.refl _ _ | apply below_drew1 | apply pw_below_drewN)))); rintro e w21 ⟨rfl, hb⟩; refine ⟨_, rfl, ?_⟩; have n0_ := Aside0.mk (blk_below (g := gb153) (o := .cells #[.int .u8 ((rd_T30 l1 x12_1).f0), .string ((rd_T30 l1 x12_1).f1), .int .u64 ((rd_T30 l1 x12_1).f2)] 30 (0, 0)) (by (with_reducible repeat (first | refine blk_drewN ?_ _ | refine blk_drew ?_ | refine blk_alloc ?_ _)); refine blk_put (cs := #[.int .u8 ((rd_T30 l1 x12_1).f0), .string ((rd_T30 l1 x12_1).f1), .int .u64 0]) ?_ 2 _ rfl; (with_reducible repeat (first | refine blk_drewN ?_ _ | refine blk_drew ?_ | refine blk_alloc ?_ _)); refine blk_put (cs := #[.int .u8 ((rd_T30 l1 x12_1).f0), .string (⟨#[]⟩ : ByteArray), .int .u64 0]) ?_ 1 _ rfl; (with_reducible repeat (first | refine blk_drewN ?_ _ | refine blk_drew ?_ | refine blk_alloc ?_ _)); refine blk_put (cs := #[.int .u8 0, .string (⟨#[]⟩ : ByteArray), .int .u64 0]) ?_ 0 _ rfl; (with_reducible repeat (first | refine blk_drewN ?_ _ | refine blk_drew ?_ | refine blk_alloc ?_ _)); exact BK153.out) hb); have n1_ := Aside0.mk (below_step (by repeat (first | (with_reducible first | exact HB.out | apply below_alloc | apply pw_below_drewN | apply below_drew1 | refine below_set ?_ GE153.out) | exact HB.out)) hb); clear BK153; clear HB; have BK153 := n0_; have HB := n1_; clear n0_ n1_; (try clear hb); (try clear hb2); (try clear hk); (try clear hi)))
                            go_roundg k1
                            case measure => have := HK1.out; omega
                            case rel => exact ⟨(x5_1 ++ (((((⟨#[58, 58, 123]⟩ : ByteArray) ++ (⟨#[99, 108, 111, 115, 117, 114, 101]⟩ : ByteArray)) ++ (⟨#[35]⟩ : ByteArray)) ++ t154) ++ (⟨#[125]⟩ : ByteArray))), (wrap64 (x12_1 + 1)), (by first | rfl | (simp; done) | (simp [*]; done)), (by first | rfl | (simp; done) | (simp [*]; done)), H', ⟨by have := HK1.out; omega⟩, ⟨by repeat (first | (with_reducible first | exact HB.out | apply below_alloc | apply pw_below_drewN | apply below_drew1 | refine below_set ?_ GE153.out) | exact HB.out)⟩⟩
                          · rw [if_neg c18] at H
                            exact absurd H (by simp)
                        · rw [if_neg c17] at H
                          exact absurd H (by simp)
                      · rw [if_neg c16] at H
                        exact absurd H (by simp)
                    · rw [if_neg c14] at H
                      exact absurd H (by simp)
                  · rw [if_neg c13] at H
                    exact absurd H (by simp)
                · rw [if_neg c12] at H
                  have c12b0 : (((rd_T30 l1 x12_1).f1).toList == ([] : List UInt8)) = false := beq_eq_false_iff_ne.mpr c12
                  have c12b1 : (((rd_T30 l1 x12_1).f1).toList != ([] : List UInt8)) = true := bne_iff_ne.mpr c12
                  by_cases c22 : 1 + ((rd_T30 l1 x12_1).f1).size ≤ 9223372036854775807
                  · rw [if_pos c22] at H
                    have c22b0 := eq_true c22
                    have c22b1 : decide (1 + ((rd_T30 l1 x12_1).f1).size ≤ 9223372036854775807) = true := decide_eq_true c22
                    try have c22b2 : (9223372036854775807 < 1 + ((rd_T30 l1 x12_1).f1).size) = False := eq_false (Nat.not_lt.2 c22)
                    by_cases c23 : 7 + ((⟨#[58]⟩ : ByteArray) ++ ((rd_T30 l1 x12_1).f1)).size ≤ 9223372036854775807
                    · rw [if_pos c23] at H
                      have c23b0 := eq_true c23
                      have c23b1 : decide (7 + ((⟨#[58]⟩ : ByteArray) ++ ((rd_T30 l1 x12_1).f1)).size ≤ 9223372036854775807) = true := decide_eq_true c23
                      try have c23b2 : (9223372036854775807 < 7 + ((⟨#[58]⟩ : ByteArray) ++ ((rd_T30 l1 x12_1).f1)).size) = False := eq_false (Nat.not_lt.2 c23)
                      try have c23b4 : (9223372036854775807 < 7 + (1 + ((rd_T30 l1 x12_1).f1).size)) = False := eq_false (by have h_ := c23; (repeat rw [ByteArray.size_append] at h_); exact Nat.not_lt.2 h_)
                      by_cases c24 : 3 + ((⟨#[99, 108, 111, 115, 117, 114, 101]⟩ : ByteArray) ++ ((⟨#[58]⟩ : ByteArray) ++ ((rd_T30 l1 x12_1).f1))).size ≤ 9223372036854775807
                      · rw [if_pos c24] at H
                        have c24b0 := eq_true c24
                        have c24b1 : decide (3 + ((⟨#[99, 108, 111, 115, 117, 114, 101]⟩ : ByteArray) ++ ((⟨#[58]⟩ : ByteArray) ++ ((rd_T30 l1 x12_1).f1))).size ≤ 9223372036854775807) = true := decide_eq_true c24
                        try have c24b2 : (9223372036854775807 < 3 + ((⟨#[99, 108, 111, 115, 117, 114, 101]⟩ : ByteArray) ++ ((⟨#[58]⟩ : ByteArray) ++ ((rd_T30 l1 x12_1).f1))).size) = False := eq_false (Nat.not_lt.2 c24)
                        try have c24b4 : (9223372036854775807 < 3 + (7 + (1 + ((rd_T30 l1 x12_1).f1).size))) = False := eq_false (by have h_ := c24; (repeat rw [ByteArray.size_append] at h_); exact Nat.not_lt.2 h_)
                        by_cases c25 : ((⟨#[58, 58, 123]⟩ : ByteArray) ++ ((⟨#[99, 108, 111, 115, 117, 114, 101]⟩ : ByteArray) ++ ((⟨#[58]⟩ : ByteArray) ++ ((rd_T30 l1 x12_1).f1)))).size + 1 ≤ 9223372036854775807
                        · rw [if_pos c25] at H
                          have c25b0 := eq_true c25
                          have c25b1 : decide (((⟨#[58, 58, 123]⟩ : ByteArray) ++ ((⟨#[99, 108, 111, 115, 117, 114, 101]⟩ : ByteArray) ++ ((⟨#[58]⟩ : ByteArray) ++ ((rd_T30 l1 x12_1).f1)))).size + 1 ≤ 9223372036854775807) = true := decide_eq_true c25
                          try have c25b2 : (9223372036854775807 < ((⟨#[58, 58, 123]⟩ : ByteArray) ++ ((⟨#[99, 108, 111, 115, 117, 114, 101]⟩ : ByteArray) ++ ((⟨#[58]⟩ : ByteArray) ++ ((rd_T30 l1 x12_1).f1)))).size + 1) = False := eq_false (Nat.not_lt.2 c25)
                          try have c25b4 : (9223372036854775807 < 3 + (7 + (1 + ((rd_T30 l1 x12_1).f1).size)) + 1) = False := eq_false (by have h_ := c25; (repeat rw [ByteArray.size_append] at h_); exact Nat.not_lt.2 h_)
                          replace H := Option.bind_eq_some_iff.mp H
                          obtain ⟨t155, A260, H⟩ := H
                          replace H : (if (((⟨#[58, 58, 123]⟩ : ByteArray) ++ ((⟨#[99, 108, 111, 115, 117, 114, 101]⟩ : ByteArray) ++ ((⟨#[58]⟩ : ByteArray) ++ ((rd_T30 l1 x12_1).f1)))) ++ (⟨#[35]⟩ : ByteArray)).size + t155.size ≤ 9223372036854775807 then (if ((((⟨#[58, 58, 123]⟩ : ByteArray) ++ ((⟨#[99, 108, 111, 115, 117, 114, 101]⟩ : ByteArray) ++ ((⟨#[58]⟩ : ByteArray) ++ ((rd_T30 l1 x12_1).f1)))) ++ (⟨#[35]⟩ : ByteArray)) ++ t155).size + 1 ≤ 9223372036854775807 then (if x5_1.size + (((((⟨#[58, 58, 123]⟩ : ByteArray) ++ ((⟨#[99, 108, 111, 115, 117, 114, 101]⟩ : ByteArray) ++ ((⟨#[58]⟩ : ByteArray) ++ ((rd_T30 l1 x12_1).f1)))) ++ (⟨#[35]⟩ : ByteArray)) ++ t155) ++ (⟨#[125]⟩ : ByteArray)).size ≤ 9223372036854775807 then (spec_IdText.l0 k1 (x5_1 ++ (((((⟨#[58, 58, 123]⟩ : ByteArray) ++ ((⟨#[99, 108, 111, 115, 117, 114, 101]⟩ : ByteArray) ++ ((⟨#[58]⟩ : ByteArray) ++ ((rd_T30 l1 x12_1).f1)))) ++ (⟨#[35]⟩ : ByteArray)) ++ t155) ++ (⟨#[125]⟩ : ByteArray))) l1 (l1.length : Int) (wrap64 (x12_1 + 1))) else (none)) else (none)) else (none)) = some r := H
                          have A26 := Aside0.mk A260
                          clear A260
                          by_cases c27 : (((⟨#[58, 58, 123]⟩ : ByteArray) ++ ((⟨#[99, 108, 111, 115, 117, 114, 101]⟩ : ByteArray) ++ ((⟨#[58]⟩ : ByteArray) ++ ((rd_T30 l1 x12_1).f1)))) ++ (⟨#[35]⟩ : ByteArray)).size + t155.size ≤ 9223372036854775807
                          · rw [if_pos c27] at H
                            have c27b0 := eq_true c27
                            have c27b1 : decide ((((⟨#[58, 58, 123]⟩ : ByteArray) ++ ((⟨#[99, 108, 111, 115, 117, 114, 101]⟩ : ByteArray) ++ ((⟨#[58]⟩ : ByteArray) ++ ((rd_T30 l1 x12_1).f1)))) ++ (⟨#[35]⟩ : ByteArray)).size + t155.size ≤ 9223372036854775807) = true := decide_eq_true c27
                            try have c27b2 : (9223372036854775807 < (((⟨#[58, 58, 123]⟩ : ByteArray) ++ ((⟨#[99, 108, 111, 115, 117, 114, 101]⟩ : ByteArray) ++ ((⟨#[58]⟩ : ByteArray) ++ ((rd_T30 l1 x12_1).f1)))) ++ (⟨#[35]⟩ : ByteArray)).size + t155.size) = False := eq_false (Nat.not_lt.2 c27)
                            try have c27b4 : (9223372036854775807 < 3 + (7 + (1 + ((rd_T30 l1 x12_1).f1).size)) + 1 + t155.size) = False := eq_false (by have h_ := c27; (repeat rw [ByteArray.size_append] at h_); exact Nat.not_lt.2 h_)
                            by_cases c28 : ((((⟨#[58, 58, 123]⟩ : ByteArray) ++ ((⟨#[99, 108, 111, 115, 117, 114, 101]⟩ : ByteArray) ++ ((⟨#[58]⟩ : ByteArray) ++ ((rd_T30 l1 x12_1).f1)))) ++ (⟨#[35]⟩ : ByteArray)) ++ t155).size + 1 ≤ 9223372036854775807
                            · rw [if_pos c28] at H
                              have c28b0 := eq_true c28
                              have c28b1 : decide (((((⟨#[58, 58, 123]⟩ : ByteArray) ++ ((⟨#[99, 108, 111, 115, 117, 114, 101]⟩ : ByteArray) ++ ((⟨#[58]⟩ : ByteArray) ++ ((rd_T30 l1 x12_1).f1)))) ++ (⟨#[35]⟩ : ByteArray)) ++ t155).size + 1 ≤ 9223372036854775807) = true := decide_eq_true c28
                              try have c28b2 : (9223372036854775807 < ((((⟨#[58, 58, 123]⟩ : ByteArray) ++ ((⟨#[99, 108, 111, 115, 117, 114, 101]⟩ : ByteArray) ++ ((⟨#[58]⟩ : ByteArray) ++ ((rd_T30 l1 x12_1).f1)))) ++ (⟨#[35]⟩ : ByteArray)) ++ t155).size + 1) = False := eq_false (Nat.not_lt.2 c28)
                              try have c28b4 : (9223372036854775807 < 3 + (7 + (1 + ((rd_T30 l1 x12_1).f1).size)) + 1 + t155.size + 1) = False := eq_false (by have h_ := c28; (repeat rw [ByteArray.size_append] at h_); exact Nat.not_lt.2 h_)
                              by_cases c29 : x5_1.size + (((((⟨#[58, 58, 123]⟩ : ByteArray) ++ ((⟨#[99, 108, 111, 115, 117, 114, 101]⟩ : ByteArray) ++ ((⟨#[58]⟩ : ByteArray) ++ ((rd_T30 l1 x12_1).f1)))) ++ (⟨#[35]⟩ : ByteArray)) ++ t155) ++ (⟨#[125]⟩ : ByteArray)).size ≤ 9223372036854775807
                              · rw [if_pos c29] at H
                                have c29b0 := eq_true c29
                                have c29b1 : decide (x5_1.size + (((((⟨#[58, 58, 123]⟩ : ByteArray) ++ ((⟨#[99, 108, 111, 115, 117, 114, 101]⟩ : ByteArray) ++ ((⟨#[58]⟩ : ByteArray) ++ ((rd_T30 l1 x12_1).f1)))) ++ (⟨#[35]⟩ : ByteArray)) ++ t155) ++ (⟨#[125]⟩ : ByteArray)).size ≤ 9223372036854775807) = true := decide_eq_true c29
                                try have c29b2 : (9223372036854775807 < x5_1.size + (((((⟨#[58, 58, 123]⟩ : ByteArray) ++ ((⟨#[99, 108, 111, 115, 117, 114, 101]⟩ : ByteArray) ++ ((⟨#[58]⟩ : ByteArray) ++ ((rd_T30 l1 x12_1).f1)))) ++ (⟨#[35]⟩ : ByteArray)) ++ t155) ++ (⟨#[125]⟩ : ByteArray)).size) = False := eq_false (Nat.not_lt.2 c29)
                                try have c29b4 : (9223372036854775807 < x5_1.size + (3 + (7 + (1 + ((rd_T30 l1 x12_1).f1).size)) + 1 + t155.size + 1)) = False := eq_false (by have h_ := c29; (repeat rw [ByteArray.size_append] at h_); exact Nat.not_lt.2 h_)
                                have H' := Aside0.mk H
                                clear H
                                have p152 : 0 ≤ (x12_1 : Int) := of_decide_eq_true (by first | (with_reducible assumption) | assumption)
                                have q152 : x12_1 < (l1.length : Int) := of_decide_eq_true (by first | (with_reducible assumption) | assumption)
                                obtain ⟨ad152, e152, hx152_0, hx152_1, hx152_2⟩ := at_T30 HR1.out x12_1 p152 q152
                                cases e152
                                replace hx152_0 := (HB.out.cell (World.block_lt_of_cell? w _ hx152_0)).trans hx152_0
                                replace hx152_1 := (HB.out.cell (World.block_lt_of_cell? w _ hx152_1)).trans hx152_1
                                replace hx152_2 := (HB.out.cell (World.block_lt_of_cell? w _ hx152_2)).trans hx152_2
                                replace p152 := eq_true p152
                                replace q152 := eq_true q152
                                go_wp2_with (first | ((with_reducible refine gate_dst (N := 7) rfl ?_); refine box_event ?hg (N := 7) ?hd (cs := #[.int .u8 0, .string (⟨#[]⟩ : ByteArray), .int .u64 0]) (t := 30) ?hr ?_; (case hd => rfl); (case hg => rfl); (case hr => first | (go_simp; done) | (go_simp; rfl)); intro gb153 hg w30 hbox hb; have n0_ := Aside0.mk (below_step (by repeat (first | (with_reducible first | exact HB.out | apply below_alloc | apply pw_below_drewN | apply below_drew1) | exact HB.out)) hb); have n1_ := Aside0.mk (hbox); have n2_ := Aside0.mk ((by rw [hg]; exact (below_size (by repeat (first | (with_reducible first | exact HB.out | apply below_alloc | apply pw_below_drewN | apply below_drew1) | exact HB.out))) : w.heap.size ≤ gb153)); have n3_ := Aside0.mk ((by rw [hg]; exact (below_size (by repeat (first | (with_reducible first | exact HB.out | apply below_alloc | apply pw_below_drewN | apply below_drew1) | exact HB.out))) : w.heap.size ≤ gb153)); clear HB; have HB := n0_; have BK153 := n1_; have GW153 := n2_; have GE153 := n3_; clear n0_ n1_ n2_ n3_; clear hb hbox hg; have hcz31_0 : w30.cell? ⟨gb153, 0, none⟩ = some (.int .u8 0) := (blk_cell BK153.out 0).trans rfl; have hcz31_1 : w30.cell? ⟨gb153, 1, none⟩ = some (.string (⟨#[]⟩ : ByteArray)) := (blk_cell BK153.out 1).trans rfl; have hcz31_2 : w30.cell? ⟨gb153, 2, none⟩ = some (.int .u64 0) := (blk_cell BK153.out 2).trans rfl; have hfz31_0 := blk_frozen BK153.out 0; have hfz31_1 := blk_frozen BK153.out 1; have hfz31_2 := blk_frozen BK153.out 2) | ((with_reducible refine gate_callee (f := 14) rfl ?_); refine goesL_ (some 48) rfl rfl Tryz.func14 (by kernel_rfl) rfl #[.int .u64 ((rd_T30 l1 x12_1).f2), .int .i64 10] rfl (by (try simp only [List.map_toArray, List.map_cons, List.map_nil]); first | done | rfl | (simp only [List.length_drop, List.length_take]; rfl)) ?_; (with_reducible refine (strconv_FormatUint.calls ((rd_T30 l1 x12_1).f2) 10 t155 _ (show DoorU _ from ?side1) A26.out).mono ?_); (case side1 => exact Stays.below hT_ (by first | (repeat (first | (with_reducible first | exact HB.out | apply below_alloc | apply pw_below_drewN | apply below_drew1 | refine below_set ?_ GE153.out) | exact HB.out)) | (repeat (first | exact Below.refl _ _ | apply below_drew1 | apply pw_below_drewN)))); rintro e w32 ⟨rfl, hb⟩; refine ⟨_, rfl, ?_⟩; have n0_ := Aside0.mk (blk_below (g := gb153) (o := .cells #[.int .u8 ((rd_T30 l1 x12_1).f0), .string ((rd_T30 l1 x12_1).f1), .int .u64 ((rd_T30 l1 x12_1).f2)] 30 (0, 0)) (by (with_reducible repeat (first | refine blk_drewN ?_ _ | refine blk_drew ?_ | refine blk_alloc ?_ _)); refine blk_put (cs := #[.int .u8 ((rd_T30 l1 x12_1).f0), .string ((rd_T30 l1 x12_1).f1), .int .u64 0]) ?_ 2 _ rfl; (with_reducible repeat (first | refine blk_drewN ?_ _ | refine blk_drew ?_ | refine blk_alloc ?_ _)); refine blk_put (cs := #[.int .u8 ((rd_T30 l1 x12_1).f0), .string (⟨#[]⟩ : ByteArray), .int .u64 0]) ?_ 1 _ rfl; (with_reducible repeat (first | refine blk_drewN ?_ _ | refine blk_drew ?_ | refine blk_alloc ?_ _)); refine blk_put (cs := #[.int .u8 0, .string (⟨#[]⟩ : ByteArray), .int .u64 0]) ?_ 0 _ rfl; (with_reducible repeat (first | refine blk_drewN ?_ _ | refine blk_drew ?_ | refine blk_alloc ?_ _)); exact BK153.out) hb); have n1_ := Aside0.mk (below_step (by repeat (first | (with_reducible first | exact HB.out | apply below_alloc | apply pw_below_drewN | apply below_drew1 | refine below_set ?_ GE153.out) | exact HB.out)) hb); clear BK153; clear HB; have BK153 := n0_; have HB := n1_; clear n0_ n1_; (try clear hb); (try clear hb2); (try clear hk); (try clear hi)))
                                go_roundg k1
                                case measure => have := HK1.out; omega
                                case rel => exact ⟨(x5_1 ++ (((((⟨#[58, 58, 123]⟩ : ByteArray) ++ ((⟨#[99, 108, 111, 115, 117, 114, 101]⟩ : ByteArray) ++ ((⟨#[58]⟩ : ByteArray) ++ ((rd_T30 l1 x12_1).f1)))) ++ (⟨#[35]⟩ : ByteArray)) ++ t155) ++ (⟨#[125]⟩ : ByteArray))), (wrap64 (x12_1 + 1)), (by first | rfl | (simp; done) | (simp [*]; done)), (by first | rfl | (simp; done) | (simp [*]; done)), H', ⟨by have := HK1.out; omega⟩, ⟨by repeat (first | (with_reducible first | exact HB.out | apply below_alloc | apply pw_below_drewN | apply below_drew1 | refine below_set ?_ GE153.out) | exact HB.out)⟩⟩
                              · rw [if_neg c29] at H
                                exact absurd H (by simp)
                            · rw [if_neg c28] at H
                              exact absurd H (by simp)
                          · rw [if_neg c27] at H
                            exact absurd H (by simp)
                        · rw [if_neg c25] at H
                          exact absurd H (by simp)
                      · rw [if_neg c24] at H
                        exact absurd H (by simp)
                    · rw [if_neg c23] at H
                      exact absurd H (by simp)
                  · rw [if_neg c22] at H
                    exact absurd H (by simp)
              · rw [if_neg c11] at H
                have c11b0 : (((rd_T30 l1 x12_1).f0) == 67) = false := beq_eq_false_iff_ne.mpr c11
                have c11b1 : (((rd_T30 l1 x12_1).f0) != 67) = true := bne_iff_ne.mpr c11
                by_cases c33 : ((rd_T30 l1 x12_1).f0) = 83
                · rw [if_pos c33] at H
                  have c33b0 : (((rd_T30 l1 x12_1).f0) == 83) = true := beq_iff_eq.mpr c33
                  have c33b1 : (((rd_T30 l1 x12_1).f0) != 83) = false := bne_eq_false_iff_eq.mpr c33
                  clear c33
                  by_cases c34 : ((rd_T30 l1 x12_1).f1).toList = ([] : List UInt8)
                  · rw [if_pos c34] at H
                    have c34b0 : (((rd_T30 l1 x12_1).f1).toList == ([] : List UInt8)) = true := beq_iff_eq.mpr c34
                    have c34b1 : (((rd_T30 l1 x12_1).f1).toList != ([] : List UInt8)) = false := bne_eq_false_iff_eq.mpr c34
                    clear c34
                    by_cases c35 : 3 + 4 ≤ 9223372036854775807
                    · rw [if_pos c35] at H
                      have c35b0 := eq_true c35
                      have c35b1 : decide (3 + 4 ≤ 9223372036854775807) = true := decide_eq_true c35
                      try have c35b2 : (9223372036854775807 < 3 + 4) = False := eq_false (Nat.not_lt.2 c35)
                      by_cases c36 : 6 + 1 ≤ 9223372036854775807
                      · rw [if_pos c36] at H
                        have c36b0 := eq_true c36
                        have c36b1 : decide (6 + 1 ≤ 9223372036854775807) = true := decide_eq_true c36
                        try have c36b2 : (9223372036854775807 < 6 + 1) = False := eq_false (Nat.not_lt.2 c36)
                        replace H := Option.bind_eq_some_iff.mp H
                        obtain ⟨t156, A370, H⟩ := H
                        replace H : (if (((⟨#[58, 58, 123]⟩ : ByteArray) ++ (⟨#[115, 104, 105, 109]⟩ : ByteArray)) ++ (⟨#[35]⟩ : ByteArray)).size + t156.size ≤ 9223372036854775807 then (if ((((⟨#[58, 58, 123]⟩ : ByteArray) ++ (⟨#[115, 104, 105, 109]⟩ : ByteArray)) ++ (⟨#[35]⟩ : ByteArray)) ++ t156).size + 1 ≤ 9223372036854775807 then (if x5_1.size + (((((⟨#[58, 58, 123]⟩ : ByteArray) ++ (⟨#[115, 104, 105, 109]⟩ : ByteArray)) ++ (⟨#[35]⟩ : ByteArray)) ++ t156) ++ (⟨#[125]⟩ : ByteArray)).size ≤ 9223372036854775807 then (spec_IdText.l0 k1 (x5_1 ++ (((((⟨#[58, 58, 123]⟩ : ByteArray) ++ (⟨#[115, 104, 105, 109]⟩ : ByteArray)) ++ (⟨#[35]⟩ : ByteArray)) ++ t156) ++ (⟨#[125]⟩ : ByteArray))) l1 (l1.length : Int) (wrap64 (x12_1 + 1))) else (none)) else (none)) else (none)) = some r := H
                        have A37 := Aside0.mk A370
                        clear A370
                        by_cases c38 : (((⟨#[58, 58, 123]⟩ : ByteArray) ++ (⟨#[115, 104, 105, 109]⟩ : ByteArray)) ++ (⟨#[35]⟩ : ByteArray)).size + t156.size ≤ 9223372036854775807
                        · rw [if_pos c38] at H
                          have c38b0 := eq_true c38
                          have c38b1 : decide ((((⟨#[58, 58, 123]⟩ : ByteArray) ++ (⟨#[115, 104, 105, 109]⟩ : ByteArray)) ++ (⟨#[35]⟩ : ByteArray)).size + t156.size ≤ 9223372036854775807) = true := decide_eq_true c38
                          try have c38b2 : (9223372036854775807 < (((⟨#[58, 58, 123]⟩ : ByteArray) ++ (⟨#[115, 104, 105, 109]⟩ : ByteArray)) ++ (⟨#[35]⟩ : ByteArray)).size + t156.size) = False := eq_false (Nat.not_lt.2 c38)
                          try have c38b4 : (9223372036854775807 < 3 + 4 + 1 + t156.size) = False := eq_false (by have h_ := c38; (repeat rw [ByteArray.size_append] at h_); exact Nat.not_lt.2 h_)
                          by_cases c39 : ((((⟨#[58, 58, 123]⟩ : ByteArray) ++ (⟨#[115, 104, 105, 109]⟩ : ByteArray)) ++ (⟨#[35]⟩ : ByteArray)) ++ t156).size + 1 ≤ 9223372036854775807
                          · rw [if_pos c39] at H
                            have c39b0 := eq_true c39
                            have c39b1 : decide (((((⟨#[58, 58, 123]⟩ : ByteArray) ++ (⟨#[115, 104, 105, 109]⟩ : ByteArray)) ++ (⟨#[35]⟩ : ByteArray)) ++ t156).size + 1 ≤ 9223372036854775807) = true := decide_eq_true c39
                            try have c39b2 : (9223372036854775807 < ((((⟨#[58, 58, 123]⟩ : ByteArray) ++ (⟨#[115, 104, 105, 109]⟩ : ByteArray)) ++ (⟨#[35]⟩ : ByteArray)) ++ t156).size + 1) = False := eq_false (Nat.not_lt.2 c39)
                            try have c39b4 : (9223372036854775807 < 3 + 4 + 1 + t156.size + 1) = False := eq_false (by have h_ := c39; (repeat rw [ByteArray.size_append] at h_); exact Nat.not_lt.2 h_)
                            by_cases c40 : x5_1.size + (((((⟨#[58, 58, 123]⟩ : ByteArray) ++ (⟨#[115, 104, 105, 109]⟩ : ByteArray)) ++ (⟨#[35]⟩ : ByteArray)) ++ t156) ++ (⟨#[125]⟩ : ByteArray)).size ≤ 9223372036854775807
                            · rw [if_pos c40] at H
                              have c40b0 := eq_true c40
                              have c40b1 : decide (x5_1.size + (((((⟨#[58, 58, 123]⟩ : ByteArray) ++ (⟨#[115, 104, 105, 109]⟩ : ByteArray)) ++ (⟨#[35]⟩ : ByteArray)) ++ t156) ++ (⟨#[125]⟩ : ByteArray)).size ≤ 9223372036854775807) = true := decide_eq_true c40
                              try have c40b2 : (9223372036854775807 < x5_1.size + (((((⟨#[58, 58, 123]⟩ : ByteArray) ++ (⟨#[115, 104, 105, 109]⟩ : ByteArray)) ++ (⟨#[35]⟩ : ByteArray)) ++ t156) ++ (⟨#[125]⟩ : ByteArray)).size) = False := eq_false (Nat.not_lt.2 c40)
                              try have c40b4 : (9223372036854775807 < x5_1.size + (3 + 4 + 1 + t156.size + 1)) = False := eq_false (by have h_ := c40; (repeat rw [ByteArray.size_append] at h_); exact Nat.not_lt.2 h_)
                              have H' := Aside0.mk H
                              clear H
                              have p152 : 0 ≤ (x12_1 : Int) := of_decide_eq_true (by first | (with_reducible assumption) | assumption)
                              have q152 : x12_1 < (l1.length : Int) := of_decide_eq_true (by first | (with_reducible assumption) | assumption)
                              obtain ⟨ad152, e152, hx152_0, hx152_1, hx152_2⟩ := at_T30 HR1.out x12_1 p152 q152
                              cases e152
                              replace hx152_0 := (HB.out.cell (World.block_lt_of_cell? w _ hx152_0)).trans hx152_0
                              replace hx152_1 := (HB.out.cell (World.block_lt_of_cell? w _ hx152_1)).trans hx152_1
                              replace hx152_2 := (HB.out.cell (World.block_lt_of_cell? w _ hx152_2)).trans hx152_2
                              replace p152 := eq_true p152
                              replace q152 := eq_true q152
                              go_wp2_with (first | ((with_reducible refine gate_dst (N := 7) rfl ?_); refine box_event ?hg (N := 7) ?hd (cs := #[.int .u8 0, .string (⟨#[]⟩ : ByteArray), .int .u64 0]) (t := 30) ?hr ?_; (case hd => rfl); (case hg => rfl); (case hr => first | (go_simp; done) | (go_simp; rfl)); intro gb153 hg w41 hbox hb; have n0_ := Aside0.mk (below_step (by repeat (first | (with_reducible first | exact HB.out | apply below_alloc | apply pw_below_drewN | apply below_drew1) | exact HB.out)) hb); have n1_ := Aside0.mk (hbox); have n2_ := Aside0.mk ((by rw [hg]; exact (below_size (by repeat (first | (with_reducible first | exact HB.out | apply below_alloc | apply pw_below_drewN | apply below_drew1) | exact HB.out))) : w.heap.size ≤ gb153)); have n3_ := Aside0.mk ((by rw [hg]; exact (below_size (by repeat (first | (with_reducible first | exact HB.out | apply below_alloc | apply pw_below_drewN | apply below_drew1) | exact HB.out))) : w.heap.size ≤ gb153)); clear HB; have HB := n0_; have BK153 := n1_; have GW153 := n2_; have GE153 := n3_; clear n0_ n1_ n2_ n3_; clear hb hbox hg; have hcz42_0 : w41.cell? ⟨gb153, 0, none⟩ = some (.int .u8 0) := (blk_cell BK153.out 0).trans rfl; have hcz42_1 : w41.cell? ⟨gb153, 1, none⟩ = some (.string (⟨#[]⟩ : ByteArray)) := (blk_cell BK153.out 1).trans rfl; have hcz42_2 : w41.cell? ⟨gb153, 2, none⟩ = some (.int .u64 0) := (blk_cell BK153.out 2).trans rfl; have hfz42_0 := blk_frozen BK153.out 0; have hfz42_1 := blk_frozen BK153.out 1; have hfz42_2 := blk_frozen BK153.out 2) | ((with_reducible refine gate_callee (f := 14) rfl ?_); refine goesL_ (some 48) rfl rfl Tryz.func14 (by kernel_rfl) rfl #[.int .u64 ((rd_T30 l1 x12_1).f2), .int .i64 10] rfl (by (try simp only [List.map_toArray, List.map_cons, List.map_nil]); first | done | rfl | (simp only [List.length_drop, List.length_take]; rfl)) ?_; (with_reducible refine (strconv_FormatUint.calls ((rd_T30 l1 x12_1).f2) 10 t156 _ (show DoorU _ from ?side1) A37.out).mono ?_); (case side1 => exact Stays.below hT_ (by first | (repeat (first | (with_reducible first | exact HB.out | apply below_alloc | apply pw_below_drewN | apply below_drew1 | refine below_set ?_ GE153.out) | exact HB.out)) | (repeat (first | exact Below.refl _ _ | apply below_drew1 | apply pw_below_drewN)))); rintro e w43 ⟨rfl, hb⟩; refine ⟨_, rfl, ?_⟩; have n0_ := Aside0.mk (blk_below (g := gb153) (o := .cells #[.int .u8 ((rd_T30 l1 x12_1).f0), .string ((rd_T30 l1 x12_1).f1), .int .u64 ((rd_T30 l1 x12_1).f2)] 30 (0, 0)) (by (with_reducible repeat (first | refine blk_drewN ?_ _ | refine blk_drew ?_ | refine blk_alloc ?_ _)); refine blk_put (cs := #[.int .u8 ((rd_T30 l1 x12_1).f0), .string ((rd_T30 l1 x12_1).f1), .int .u64 0]) ?_ 2 _ rfl; (with_reducible repeat (first | refine blk_drewN ?_ _ | refine blk_drew ?_ | refine blk_alloc ?_ _)); refine blk_put (cs := #[.int .u8 ((rd_T30 l1 x12_1).f0), .string (⟨#[]⟩ : ByteArray), .int .u64 0]) ?_ 1 _ rfl; (with_reducible repeat (first | refine blk_drewN ?_ _ | refine blk_drew ?_ | refine blk_alloc ?_ _)); refine blk_put (cs := #[.int .u8 0, .string (⟨#[]⟩ : ByteArray), .int .u64 0]) ?_ 0 _ rfl; (with_reducible repeat (first | refine blk_drewN ?_ _ | refine blk_drew ?_ | refine blk_alloc ?_ _)); exact BK153.out) hb); have n1_ := Aside0.mk (below_step (by repeat (first | (with_reducible first | exact HB.out | apply below_alloc | apply pw_below_drewN | apply below_drew1 | refine below_set ?_ GE153.out) | exact HB.out)) hb); clear BK153; clear HB; have BK153 := n0_; have HB := n1_; clear n0_ n1_; (try clear hb); (try clear hb2); (try clear hk); (try clear hi)))
                              go_roundg k1
                              case measure => have := HK1.out; omega
                              case rel => exact ⟨(x5_1 ++ (((((⟨#[58, 58, 123]⟩ : ByteArray) ++ (⟨#[115, 104, 105, 109]⟩ : ByteArray)) ++ (⟨#[35]⟩ : ByteArray)) ++ t156) ++ (⟨#[125]⟩ : ByteArray))), (wrap64 (x12_1 + 1)), (by first | rfl | (simp; done) | (simp [*]; done)), (by first | rfl | (simp; done) | (simp [*]; done)), H', ⟨by have := HK1.out; omega⟩, ⟨by repeat (first | (with_reducible first | exact HB.out | apply below_alloc | apply pw_below_drewN | apply below_drew1 | refine below_set ?_ GE153.out) | exact HB.out)⟩⟩
                            · rw [if_neg c40] at H
                              exact absurd H (by simp)
                          · rw [if_neg c39] at H
                            exact absurd H (by simp)
                        · rw [if_neg c38] at H
                          exact absurd H (by simp)
                      · rw [if_neg c36] at H
                        exact absurd H (by simp)
                    · rw [if_neg c35] at H
                      exact absurd H (by simp)
                  · rw [if_neg c34] at H
                    have c34b0 : (((rd_T30 l1 x12_1).f1).toList == ([] : List UInt8)) = false := beq_eq_false_iff_ne.mpr c34
                    have c34b1 : (((rd_T30 l1 x12_1).f1).toList != ([] : List UInt8)) = true := bne_iff_ne.mpr c34
                    by_cases c44 : 1 + ((rd_T30 l1 x12_1).f1).size ≤ 9223372036854775807
                    · rw [if_pos c44] at H
                      have c44b0 := eq_true c44
                      have c44b1 : decide (1 + ((rd_T30 l1 x12_1).f1).size ≤ 9223372036854775807) = true := decide_eq_true c44
                      try have c44b2 : (9223372036854775807 < 1 + ((rd_T30 l1 x12_1).f1).size) = False := eq_false (Nat.not_lt.2 c44)
                      by_cases c45 : 4 + ((⟨#[58]⟩ : ByteArray) ++ ((rd_T30 l1 x12_1).f1)).size ≤ 9223372036854775807
                      · rw [if_pos c45] at H
                        have c45b0 := eq_true c45
                        have c45b1 : decide (4 + ((⟨#[58]⟩ : ByteArray) ++ ((rd_T30 l1 x12_1).f1)).size ≤ 9223372036854775807) = true := decide_eq_true c45
                        try have c45b2 : (9223372036854775807 < 4 + ((⟨#[58]⟩ : ByteArray) ++ ((rd_T30 l1 x12_1).f1)).size) = False := eq_false (Nat.not_lt.2 c45)
                        try have c45b4 : (9223372036854775807 < 4 + (1 + ((rd_T30 l1 x12_1).f1).size)) = False := eq_false (by have h_ := c45; (repeat rw [ByteArray.size_append] at h_); exact Nat.not_lt.2 h_)
                        by_cases c46 : 3 + ((⟨#[115, 104, 105, 109]⟩ : ByteArray) ++ ((⟨#[58]⟩ : ByteArray) ++ ((rd_T30 l1 x12_1).f1))).size ≤ 9223372036854775807
                        · rw [if_pos c46] at H
                          have c46b0 := eq_true c46
                          have c46b1 : decide (3 + ((⟨#[115, 104, 105, 109]⟩ : ByteArray) ++ ((⟨#[58]⟩ : ByteArray) ++ ((rd_T30 l1 x12_1).f1))).size ≤ 9223372036854775807) = true := decide_eq_true c46
                          try have c46b2 : (9223372036854775807 < 3 + ((⟨#[115, 104, 105, 109]⟩ : ByteArray) ++ ((⟨#[58]⟩ : ByteArray) ++ ((rd_T30 l1 x12_1).f1))).size) = False := eq_false (Nat.not_lt.2 c46)
                          try have c46b4 : (9223372036854775807 < 3 + (4 + (1 + ((rd_T30 l1 x12_1).f1).size))) = False := eq_false (by have h_ := c46; (repeat rw [ByteArray.size_append] at h_); exact Nat.not_lt.2 h_)
                          by_cases c47 : ((⟨#[58, 58, 123]⟩ : ByteArray) ++ ((⟨#[115, 104, 105, 109]⟩ : ByteArray) ++ ((⟨#[58]⟩ : ByteArray) ++ ((rd_T30 l1 x12_1).f1)))).size + 1 ≤ 9223372036854775807
                          · rw [if_pos c47] at H
                            have c47b0 := eq_true c47
                            have c47b1 : decide (((⟨#[58, 58, 123]⟩ : ByteArray) ++ ((⟨#[115, 104, 105, 109]⟩ : ByteArray) ++ ((⟨#[58]⟩ : ByteArray) ++ ((rd_T30 l1 x12_1).f1)))).size + 1 ≤ 9223372036854775807) = true := decide_eq_true c47
                            try have c47b2 : (9223372036854775807 < ((⟨#[58, 58, 123]⟩ : ByteArray) ++ ((⟨#[115, 104, 105, 109]⟩ : ByteArray) ++ ((⟨#[58]⟩ : ByteArray) ++ ((rd_T30 l1 x12_1).f1)))).size + 1) = False := eq_false (Nat.not_lt.2 c47)
                            try have c47b4 : (9223372036854775807 < 3 + (4 + (1 + ((rd_T30 l1 x12_1).f1).size)) + 1) = False := eq_false (by have h_ := c47; (repeat rw [ByteArray.size_append] at h_); exact Nat.not_lt.2 h_)
                            replace H := Option.bind_eq_some_iff.mp H
                            obtain ⟨t157, A480, H⟩ := H
                            replace H : (if (((⟨#[58, 58, 123]⟩ : ByteArray) ++ ((⟨#[115, 104, 105, 109]⟩ : ByteArray) ++ ((⟨#[58]⟩ : ByteArray) ++ ((rd_T30 l1 x12_1).f1)))) ++ (⟨#[35]⟩ : ByteArray)).size + t157.size ≤ 9223372036854775807 then (if ((((⟨#[58, 58, 123]⟩ : ByteArray) ++ ((⟨#[115, 104, 105, 109]⟩ : ByteArray) ++ ((⟨#[58]⟩ : ByteArray) ++ ((rd_T30 l1 x12_1).f1)))) ++ (⟨#[35]⟩ : ByteArray)) ++ t157).size + 1 ≤ 9223372036854775807 then (if x5_1.size + (((((⟨#[58, 58, 123]⟩ : ByteArray) ++ ((⟨#[115, 104, 105, 109]⟩ : ByteArray) ++ ((⟨#[58]⟩ : ByteArray) ++ ((rd_T30 l1 x12_1).f1)))) ++ (⟨#[35]⟩ : ByteArray)) ++ t157) ++ (⟨#[125]⟩ : ByteArray)).size ≤ 9223372036854775807 then (spec_IdText.l0 k1 (x5_1 ++ (((((⟨#[58, 58, 123]⟩ : ByteArray) ++ ((⟨#[115, 104, 105, 109]⟩ : ByteArray) ++ ((⟨#[58]⟩ : ByteArray) ++ ((rd_T30 l1 x12_1).f1)))) ++ (⟨#[35]⟩ : ByteArray)) ++ t157) ++ (⟨#[125]⟩ : ByteArray))) l1 (l1.length : Int) (wrap64 (x12_1 + 1))) else (none)) else (none)) else (none)) = some r := H
                            have A48 := Aside0.mk A480
                            clear A480
                            by_cases c49 : (((⟨#[58, 58, 123]⟩ : ByteArray) ++ ((⟨#[115, 104, 105, 109]⟩ : ByteArray) ++ ((⟨#[58]⟩ : ByteArray) ++ ((rd_T30 l1 x12_1).f1)))) ++ (⟨#[35]⟩ : ByteArray)).size + t157.size ≤ 9223372036854775807
                            · rw [if_pos c49] at H
                              have c49b0 := eq_true c49
                              have c49b1 : decide ((((⟨#[58, 58, 123]⟩ : ByteArray) ++ ((⟨#[115, 104, 105, 109]⟩ : ByteArray) ++ ((⟨#[58]⟩ : ByteArray) ++ ((rd_T30 l1 x12_1).f1)))) ++ (⟨#[35]⟩ : ByteArray)).size + t157.size ≤ 9223372036854775807) = true := decide_eq_true c49
                              try have c49b2 : (9223372036854775807 < (((⟨#[58, 58, 123]⟩ : ByteArray) ++ ((⟨#[115, 104, 105, 109]⟩ : ByteArray) ++ ((⟨#[58]⟩ : ByteArray) ++ ((rd_T30 l1 x12_1).f1)))) ++ (⟨#[35]⟩ : ByteArray)).size + t157.size) = False := eq_false (Nat.not_lt.2 c49)
                              try have c49b4 : (9223372036854775807 < 3 + (4 + (1 + ((rd_T30 l1 x12_1).f1).size)) + 1 + t157.size) = False := eq_false (by have h_ := c49; (repeat rw [ByteArray.size_append] at h_); exact Nat.not_lt.2 h_)
                              by_cases c50 : ((((⟨#[58, 58, 123]⟩ : ByteArray) ++ ((⟨#[115, 104, 105, 109]⟩ : ByteArray) ++ ((⟨#[58]⟩ : ByteArray) ++ ((rd_T30 l1 x12_1).f1)))) ++ (⟨#[35]⟩ : ByteArray)) ++ t157).size + 1 ≤ 9223372036854775807
                              · rw [if_pos c50] at H
                                have c50b0 := eq_true c50
                                have c50b1 : decide (((((⟨#[58, 58, 123]⟩ : ByteArray) ++ ((⟨#[115, 104, 105, 109]⟩ : ByteArray) ++ ((⟨#[58]⟩ : ByteArray) ++ ((rd_T30 l1 x12_1).f1)))) ++ (⟨#[35]⟩ : ByteArray)) ++ t157).size + 1 ≤ 9223372036854775807) = true := decide_eq_true c50
                                try have c50b2 : (9223372036854775807 < ((((⟨#[58, 58, 123]⟩ : ByteArray) ++ ((⟨#[115, 104, 105, 109]⟩ : ByteArray) ++ ((⟨#[58]⟩ : ByteArray) ++ ((rd_T30 l1 x12_1).f1)))) ++ (⟨#[35]⟩ : ByteArray)) ++ t157).size + 1) = False := eq_false (Nat.not_lt.2 c50)
                                try have c50b4 : (9223372036854775807 < 3 + (4 + (1 + ((rd_T30 l1 x12_1).f1).size)) + 1 + t157.size + 1) = False := eq_false (by have h_ := c50; (repeat rw [ByteArray.size_append] at h_); exact Nat.not_lt.2 h_)
                                by_cases c51 : x5_1.size + (((((⟨#[58, 58, 123]⟩ : ByteArray) ++ ((⟨#[115, 104, 105, 109]⟩ : ByteArray) ++ ((⟨#[58]⟩ : ByteArray) ++ ((rd_T30 l1 x12_1).f1)))) ++ (⟨#[35]⟩ : ByteArray)) ++ t157) ++ (⟨#[125]⟩ : ByteArray)).size ≤ 9223372036854775807
                                · rw [if_pos c51] at H
                                  have c51b0 := eq_true c51
                                  have c51b1 : decide (x5_1.size + (((((⟨#[58, 58, 123]⟩ : ByteArray) ++ ((⟨#[115, 104, 105, 109]⟩ : ByteArray) ++ ((⟨#[58]⟩ : ByteArray) ++ ((rd_T30 l1 x12_1).f1)))) ++ (⟨#[35]⟩ : ByteArray)) ++ t157) ++ (⟨#[125]⟩ : ByteArray)).size ≤ 9223372036854775807) = true := decide_eq_true c51
                                  try have c51b2 : (9223372036854775807 < x5_1.size + (((((⟨#[58, 58, 123]⟩ : ByteArray) ++ ((⟨#[115, 104, 105, 109]⟩ : ByteArray) ++ ((⟨#[58]⟩ : ByteArray) ++ ((rd_T30 l1 x12_1).f1)))) ++ (⟨#[35]⟩ : ByteArray)) ++ t157) ++ (⟨#[125]⟩ : ByteArray)).size) = False := eq_false (Nat.not_lt.2 c51)
                                  try have c51b4 : (9223372036854775807 < x5_1.size + (3 + (4 + (1 + ((rd_T30 l1 x12_1).f1).size)) + 1 + t157.size + 1)) = False := eq_false (by have h_ := c51; (repeat rw [ByteArray.size_append] at h_); exact Nat.not_lt.2 h_)
                                  have H' := Aside0.mk H
                                  clear H
                                  have p152 : 0 ≤ (x12_1 : Int) := of_decide_eq_true (by first | (with_reducible assumption) | assumption)
                                  have q152 : x12_1 < (l1.length : Int) := of_decide_eq_true (by first | (with_reducible assumption) | assumption)
                                  obtain ⟨ad152, e152, hx152_0, hx152_1, hx152_2⟩ := at_T30 HR1.out x12_1 p152 q152
                                  cases e152
                                  replace hx152_0 := (HB.out.cell (World.block_lt_of_cell? w _ hx152_0)).trans hx152_0
                                  replace hx152_1 := (HB.out.cell (World.block_lt_of_cell? w _ hx152_1)).trans hx152_1
                                  replace hx152_2 := (HB.out.cell (World.block_lt_of_cell? w _ hx152_2)).trans hx152_2
                                  replace p152 := eq_true p152
                                  replace q152 := eq_true q152
                                  go_wp2_with (first | ((with_reducible refine gate_dst (N := 7) rfl ?_); refine box_event ?hg (N := 7) ?hd (cs := #[.int .u8 0, .string (⟨#[]⟩ : ByteArray), .int .u64 0]) (t := 30) ?hr ?_; (case hd => rfl); (case hg => rfl); (case hr => first | (go_simp; done) | (go_simp; rfl)); intro gb153 hg w52 hbox hb; have n0_ := Aside0.mk (below_step (by repeat (first | (with_reducible first | exact HB.out | apply below_alloc | apply pw_below_drewN | apply below_drew1) | exact HB.out)) hb); have n1_ := Aside0.mk (hbox); have n2_ := Aside0.mk ((by rw [hg]; exact (below_size (by repeat (first | (with_reducible first | exact HB.out | apply below_alloc | apply pw_below_drewN | apply below_drew1) | exact HB.out))) : w.heap.size ≤ gb153)); have n3_ := Aside0.mk ((by rw [hg]; exact (below_size (by repeat (first | (with_reducible first | exact HB.out | apply below_alloc | apply pw_below_drewN | apply below_drew1) | exact HB.out))) : w.heap.size ≤ gb153)); clear HB; have HB := n0_; have BK153 := n1_; have GW153 := n2_; have GE153 := n3_; clear n0_ n1_ n2_ n3_; clear hb hbox hg; have hcz53_0 : w52.cell? ⟨gb153, 0, none⟩ = some (.int .u8 0) := (blk_cell BK153.out 0).trans rfl; have hcz53_1 : w52.cell? ⟨gb153, 1, none⟩ = some (.string (⟨#[]⟩ : ByteArray)) := (blk_cell BK153.out 1).trans rfl; have hcz53_2 : w52.cell? ⟨gb153, 2, none⟩ = some (.int .u64 0) := (blk_cell BK153.out 2).trans rfl; have hfz53_0 := blk_frozen BK153.out 0; have hfz53_1 := blk_frozen BK153.out 1; have hfz53_2 := blk_frozen BK153.out 2) | ((with_reducible refine gate_callee (f := 14) rfl ?_); refine goesL_ (some 48) rfl rfl Tryz.func14 (by kernel_rfl) rfl #[.int .u64 ((rd_T30 l1 x12_1).f2), .int .i64 10] rfl (by (try simp only [List.map_toArray, List.map_cons, List.map_nil]); first | done | rfl | (simp only [List.length_drop, List.length_take]; rfl)) ?_; (with_reducible refine (strconv_FormatUint.calls ((rd_T30 l1 x12_1).f2) 10 t157 _ (show DoorU _ from ?side1) A48.out).mono ?_); (case side1 => exact Stays.below hT_ (by first | (repeat (first | (with_reducible first | exact HB.out | apply below_alloc | apply pw_below_drewN | apply below_drew1 | refine below_set ?_ GE153.out) | exact HB.out)) | (repeat (first | exact Below.refl _ _ | apply below_drew1 | apply pw_below_drewN)))); rintro e w54 ⟨rfl, hb⟩; refine ⟨_, rfl, ?_⟩; have n0_ := Aside0.mk (blk_below (g := gb153) (o := .cells #[.int .u8 ((rd_T30 l1 x12_1).f0), .string ((rd_T30 l1 x12_1).f1), .int .u64 ((rd_T30 l1 x12_1).f2)] 30 (0, 0)) (by (with_reducible repeat (first | refine blk_drewN ?_ _ | refine blk_drew ?_ | refine blk_alloc ?_ _)); refine blk_put (cs := #[.int .u8 ((rd_T30 l1 x12_1).f0), .string ((rd_T30 l1 x12_1).f1), .int .u64 0]) ?_ 2 _ rfl; (with_reducible repeat (first | refine blk_drewN ?_ _ | refine blk_drew ?_ | refine blk_alloc ?_ _)); refine blk_put (cs := #[.int .u8 ((rd_T30 l1 x12_1).f0), .string (⟨#[]⟩ : ByteArray), .int .u64 0]) ?_ 1 _ rfl; (with_reducible repeat (first | refine blk_drewN ?_ _ | refine blk_drew ?_ | refine blk_alloc ?_ _)); refine blk_put (cs := #[.int .u8 0, .string (⟨#[]⟩ : ByteArray), .int .u64 0]) ?_ 0 _ rfl; (with_reducible repeat (first | refine blk_drewN ?_ _ | refine blk_drew ?_ | refine blk_alloc ?_ _)); exact BK153.out) hb); have n1_ := Aside0.mk (below_step (by repeat (first | (with_reducible first | exact HB.out | apply below_alloc | apply pw_below_drewN | apply below_drew1 | refine below_set ?_ GE153.out) | exact HB.out)) hb); clear BK153; clear HB; have BK153 := n0_; have HB := n1_; clear n0_ n1_; (try clear hb); (try clear hb2); (try clear hk); (try clear hi)))
                                  go_roundg k1
                                  case measure => have := HK1.out; omega
                                  case rel => exact ⟨(x5_1 ++ (((((⟨#[58, 58, 123]⟩ : ByteArray) ++ ((⟨#[115, 104, 105, 109]⟩ : ByteArray) ++ ((⟨#[58]⟩ : ByteArray) ++ ((rd_T30 l1 x12_1).f1)))) ++ (⟨#[35]⟩ : ByteArray)) ++ t157) ++ (⟨#[125]⟩ : ByteArray))), (wrap64 (x12_1 + 1)), (by first | rfl | (simp; done) | (simp [*]; done)), (by first | rfl | (simp; done) | (simp [*]; done)), H', ⟨by have := HK1.out; omega⟩, ⟨by repeat (first | (with_reducible first | exact HB.out | apply below_alloc | apply pw_below_drewN | apply below_drew1 | refine below_set ?_ GE153.out) | exact HB.out)⟩⟩
                                · rw [if_neg c51] at H
                                  exact absurd H (by simp)
                              · rw [if_neg c50] at H
                                exact absurd H (by simp)
                            · rw [if_neg c49] at H
                              exact absurd H (by simp)
                          · rw [if_neg c47] at H
                            exact absurd H (by simp)
                        · rw [if_neg c46] at H
                          exact absurd H (by simp)
                      · rw [if_neg c45] at H
                        exact absurd H (by simp)
                    · rw [if_neg c44] at H
                      exact absurd H (by simp)
                · rw [if_neg c33] at H
                  have c33b0 : (((rd_T30 l1 x12_1).f0) == 83) = false := beq_eq_false_iff_ne.mpr c33
                  have c33b1 : (((rd_T30 l1 x12_1).f0) != 83) = true := bne_iff_ne.mpr c33
                  by_cases c55 : ((rd_T30 l1 x12_1).f1).toList = ([] : List UInt8)
                  · rw [if_pos c55] at H
                    have c55b0 : (((rd_T30 l1 x12_1).f1).toList == ([] : List UInt8)) = true := beq_iff_eq.mpr c55
                    have c55b1 : (((rd_T30 l1 x12_1).f1).toList != ([] : List UInt8)) = false := bne_eq_false_iff_eq.mpr c55
                    clear c55
                    by_cases c56 : 3 + (Utf8.encode (wrap32 ((rd_T30 l1 x12_1).f0))).size ≤ 9223372036854775807
                    · rw [if_pos c56] at H
                      have c56b0 := eq_true c56
                      have c56b1 : decide (3 + (Utf8.encode (wrap32 ((rd_T30 l1 x12_1).f0))).size ≤ 9223372036854775807) = true := decide_eq_true c56
                      try have c56b2 : (9223372036854775807 < 3 + (Utf8.encode (wrap32 ((rd_T30 l1 x12_1).f0))).size) = False := eq_false (Nat.not_lt.2 c56)
                      by_cases c57 : ((⟨#[58, 58, 123]⟩ : ByteArray) ++ (Utf8.encode (wrap32 ((rd_T30 l1 x12_1).f0)))).size + 1 ≤ 9223372036854775807
                      · rw [if_pos c57] at H
                        have c57b0 := eq_true c57
                        have c57b1 : decide (((⟨#[58, 58, 123]⟩ : ByteArray) ++ (Utf8.encode (wrap32 ((rd_T30 l1 x12_1).f0)))).size + 1 ≤ 9223372036854775807) = true := decide_eq_true c57
                        try have c57b2 : (9223372036854775807 < ((⟨#[58, 58, 123]⟩ : ByteArray) ++ (Utf8.encode (wrap32 ((rd_T30 l1 x12_1).f0)))).size + 1) = False := eq_false (Nat.not_lt.2 c57)
                        try have c57b4 : (9223372036854775807 < 3 + (Utf8.encode (wrap32 ((rd_T30 l1 x12_1).f0))).size + 1) = False := eq_false (by have h_ := c57; (repeat rw [ByteArray.size_append] at h_); exact Nat.not_lt.2 h_)
                        replace H := Option.bind_eq_some_iff.mp H
                        obtain ⟨t158, A580, H⟩ := H
                        replace H : (if (((⟨#[58, 58, 123]⟩ : ByteArray) ++ (Utf8.encode (wrap32 ((rd_T30 l1 x12_1).f0)))) ++ (⟨#[35]⟩ : ByteArray)).size + t158.size ≤ 9223372036854775807 then (if ((((⟨#[58, 58, 123]⟩ : ByteArray) ++ (Utf8.encode (wrap32 ((rd_T30 l1 x12_1).f0)))) ++ (⟨#[35]⟩ : ByteArray)) ++ t158).size + 1 ≤ 9223372036854775807 then (if x5_1.size + (((((⟨#[58, 58, 123]⟩ : ByteArray) ++ (Utf8.encode (wrap32 ((rd_T30 l1 x12_1).f0)))) ++ (⟨#[35]⟩ : ByteArray)) ++ t158) ++ (⟨#[125]⟩ : ByteArray)).size ≤ 9223372036854775807 then (spec_IdText.l0 k1 (x5_1 ++ (((((⟨#[58, 58, 123]⟩ : ByteArray) ++ (Utf8.encode (wrap32 ((rd_T30 l1 x12_1).f0)))) ++ (⟨#[35]⟩ : ByteArray)) ++ t158) ++ (⟨#[125]⟩ : ByteArray))) l1 (l1.length : Int) (wrap64 (x12_1 + 1))) else (none)) else (none)) else (none)) = some r := H
                        have A58 := Aside0.mk A580
                        clear A580
                        by_cases c59 : (((⟨#[58, 58, 123]⟩ : ByteArray) ++ (Utf8.encode (wrap32 ((rd_T30 l1 x12_1).f0)))) ++ (⟨#[35]⟩ : ByteArray)).size + t158.size ≤ 9223372036854775807
                        · rw [if_pos c59] at H
                          have c59b0 := eq_true c59
                          have c59b1 : decide ((((⟨#[58, 58, 123]⟩ : ByteArray) ++ (Utf8.encode (wrap32 ((rd_T30 l1 x12_1).f0)))) ++ (⟨#[35]⟩ : ByteArray)).size + t158.size ≤ 9223372036854775807) = true := decide_eq_true c59
                          try have c59b2 : (9223372036854775807 < (((⟨#[58, 58, 123]⟩ : ByteArray) ++ (Utf8.encode (wrap32 ((rd_T30 l1 x12_1).f0)))) ++ (⟨#[35]⟩ : ByteArray)).size + t158.size) = False := eq_false (Nat.not_lt.2 c59)
                          try have c59b4 : (9223372036854775807 < 3 + (Utf8.encode (wrap32 ((rd_T30 l1 x12_1).f0))).size + 1 + t158.size) = False := eq_false (by have h_ := c59; (repeat rw [ByteArray.size_append] at h_); exact Nat.not_lt.2 h_)
                          by_cases c60 : ((((⟨#[58, 58, 123]⟩ : ByteArray) ++ (Utf8.encode (wrap32 ((rd_T30 l1 x12_1).f0)))) ++ (⟨#[35]⟩ : ByteArray)) ++ t158).size + 1 ≤ 9223372036854775807
                          · rw [if_pos c60] at H
                            have c60b0 := eq_true c60
                            have c60b1 : decide (((((⟨#[58, 58, 123]⟩ : ByteArray) ++ (Utf8.encode (wrap32 ((rd_T30 l1 x12_1).f0)))) ++ (⟨#[35]⟩ : ByteArray)) ++ t158).size + 1 ≤ 9223372036854775807) = true := decide_eq_true c60
                            try have c60b2 : (9223372036854775807 < ((((⟨#[58, 58, 123]⟩ : ByteArray) ++ (Utf8.encode (wrap32 ((rd_T30 l1 x12_1).f0)))) ++ (⟨#[35]⟩ : ByteArray)) ++ t158).size + 1) = False := eq_false (Nat.not_lt.2 c60)
                            try have c60b4 : (9223372036854775807 < 3 + (Utf8.encode (wrap32 ((rd_T30 l1 x12_1).f0))).size + 1 + t158.size + 1) = False := eq_false (by have h_ := c60; (repeat rw [ByteArray.size_append] at h_); exact Nat.not_lt.2 h_)
                            by_cases c61 : x5_1.size + (((((⟨#[58, 58, 123]⟩ : ByteArray) ++ (Utf8.encode (wrap32 ((rd_T30 l1 x12_1).f0)))) ++ (⟨#[35]⟩ : ByteArray)) ++ t158) ++ (⟨#[125]⟩ : ByteArray)).size ≤ 9223372036854775807
                            · rw [if_pos c61] at H
                              have c61b0 := eq_true c61
                              have c61b1 : decide (x5_1.size + (((((⟨#[58, 58, 123]⟩ : ByteArray) ++ (Utf8.encode (wrap32 ((rd_T30 l1 x12_1).f0)))) ++ (⟨#[35]⟩ : ByteArray)) ++ t158) ++ (⟨#[125]⟩ : ByteArray)).size ≤ 9223372036854775807) = true := decide_eq_true c61
                              try have c61b2 : (9223372036854775807 < x5_1.size + (((((⟨#[58, 58, 123]⟩ : ByteArray) ++ (Utf8.encode (wrap32 ((rd_T30 l1 x12_1).f0)))) ++ (⟨#[35]⟩ : ByteArray)) ++ t158) ++ (⟨#[125]⟩ : ByteArray)).size) = False := eq_false (Nat.not_lt.2 c61)
                              try have c61b4 : (9223372036854775807 < x5_1.size + (3 + (Utf8.encode (wrap32 ((rd_T30 l1 x12_1).f0))).size + 1 + t158.size + 1)) = False := eq_false (by have h_ := c61; (repeat rw [ByteArray.size_append] at h_); exact Nat.not_lt.2 h_)
                              have H' := Aside0.mk H
                              clear H
                              have p152 : 0 ≤ (x12_1 : Int) := of_decide_eq_true (by first | (with_reducible assumption) | assumption)
                              have q152 : x12_1 < (l1.length : Int) := of_decide_eq_true (by first | (with_reducible assumption) | assumption)
                              obtain ⟨ad152, e152, hx152_0, hx152_1, hx152_2⟩ := at_T30 HR1.out x12_1 p152 q152
                              cases e152
                              replace hx152_0 := (HB.out.cell (World.block_lt_of_cell? w _ hx152_0)).trans hx152_0
                              replace hx152_1 := (HB.out.cell (World.block_lt_of_cell? w _ hx152_1)).trans hx152_1
                              replace hx152_2 := (HB.out.cell (World.block_lt_of_cell? w _ hx152_2)).trans hx152_2
                              replace p152 := eq_true p152
                              replace q152 := eq_true q152
                              go_wp2_with (first | ((with_reducible refine gate_dst (N := 7) rfl ?_); refine box_event ?hg (N := 7) ?hd (cs := #[.int .u8 0, .string (⟨#[]⟩ : ByteArray), .int .u64 0]) (t := 30) ?hr ?_; (case hd => rfl); (case hg => rfl); (case hr => first | (go_simp; done) | (go_simp; rfl)); intro gb153 hg w62 hbox hb; have n0_ := Aside0.mk (below_step (by repeat (first | (with_reducible first | exact HB.out | apply below_alloc | apply pw_below_drewN | apply below_drew1) | exact HB.out)) hb); have n1_ := Aside0.mk (hbox); have n2_ := Aside0.mk ((by rw [hg]; exact (below_size (by repeat (first | (with_reducible first | exact HB.out | apply below_alloc | apply pw_below_drewN | apply below_drew1) | exact HB.out))) : w.heap.size ≤ gb153)); have n3_ := Aside0.mk ((by rw [hg]; exact (below_size (by repeat (first | (with_reducible first | exact HB.out | apply below_alloc | apply pw_below_drewN | apply below_drew1) | exact HB.out))) : w.heap.size ≤ gb153)); clear HB; have HB := n0_; have BK153 := n1_; have GW153 := n2_; have GE153 := n3_; clear n0_ n1_ n2_ n3_; clear hb hbox hg; have hcz63_0 : w62.cell? ⟨gb153, 0, none⟩ = some (.int .u8 0) := (blk_cell BK153.out 0).trans rfl; have hcz63_1 : w62.cell? ⟨gb153, 1, none⟩ = some (.string (⟨#[]⟩ : ByteArray)) := (blk_cell BK153.out 1).trans rfl; have hcz63_2 : w62.cell? ⟨gb153, 2, none⟩ = some (.int .u64 0) := (blk_cell BK153.out 2).trans rfl; have hfz63_0 := blk_frozen BK153.out 0; have hfz63_1 := blk_frozen BK153.out 1; have hfz63_2 := blk_frozen BK153.out 2) | ((with_reducible refine gate_callee (f := 14) rfl ?_); refine goesL_ (some 48) rfl rfl Tryz.func14 (by kernel_rfl) rfl #[.int .u64 ((rd_T30 l1 x12_1).f2), .int .i64 10] rfl (by (try simp only [List.map_toArray, List.map_cons, List.map_nil]); first | done | rfl | (simp only [List.length_drop, List.length_take]; rfl)) ?_; (with_reducible refine (strconv_FormatUint.calls ((rd_T30 l1 x12_1).f2) 10 t158 _ (show DoorU _ from ?side1) A58.out).mono ?_); (case side1 => exact Stays.below hT_ (by first | (repeat (first | (with_reducible first | exact HB.out | apply below_alloc | apply pw_below_drewN | apply below_drew1 | refine below_set ?_ GE153.out) | exact HB.out)) | (repeat (first | exact Below.refl _ _ | apply below_drew1 | apply pw_below_drewN)))); rintro e w64 ⟨rfl, hb⟩; refine ⟨_, rfl, ?_⟩; have n0_ := Aside0.mk (blk_below (g := gb153) (o := .cells #[.int .u8 ((rd_T30 l1 x12_1).f0), .string ((rd_T30 l1 x12_1).f1), .int .u64 ((rd_T30 l1 x12_1).f2)] 30 (0, 0)) (by (with_reducible repeat (first | refine blk_drewN ?_ _ | refine blk_drew ?_ | refine blk_alloc ?_ _)); refine blk_put (cs := #[.int .u8 ((rd_T30 l1 x12_1).f0), .string ((rd_T30 l1 x12_1).f1), .int .u64 0]) ?_ 2 _ rfl; (with_reducible repeat (first | refine blk_drewN ?_ _ | refine blk_drew ?_ | refine blk_alloc ?_ _)); refine blk_put (cs := #[.int .u8 ((rd_T30 l1 x12_1).f0), .string (⟨#[]⟩ : ByteArray), .int .u64 0]) ?_ 1 _ rfl; (with_reducible repeat (first | refine blk_drewN ?_ _ | refine blk_drew ?_ | refine blk_alloc ?_ _)); refine blk_put (cs := #[.int .u8 0, .string (⟨#[]⟩ : ByteArray), .int .u64 0]) ?_ 0 _ rfl; (with_reducible repeat (first | refine blk_drewN ?_ _ | refine blk_drew ?_ | refine blk_alloc ?_ _)); exact BK153.out) hb); have n1_ := Aside0.mk (below_step (by repeat (first | (with_reducible first | exact HB.out | apply below_alloc | apply pw_below_drewN | apply below_drew1 | refine below_set ?_ GE153.out) | exact HB.out)) hb); clear BK153; clear HB; have BK153 := n0_; have HB := n1_; clear n0_ n1_; (try clear hb); (try clear hb2); (try clear hk); (try clear hi)))
                              go_roundg k1
                              case measure => have := HK1.out; omega
                              case rel => exact ⟨(x5_1 ++ (((((⟨#[58, 58, 123]⟩ : ByteArray) ++ (Utf8.encode (wrap32 ((rd_T30 l1 x12_1).f0)))) ++ (⟨#[35]⟩ : ByteArray)) ++ t158) ++ (⟨#[125]⟩ : ByteArray))), (wrap64 (x12_1 + 1)), (by first | rfl | (simp; done) | (simp [*]; done)), (by first | rfl | (simp; done) | (simp [*]; done)), H', ⟨by have := HK1.out; omega⟩, ⟨by repeat (first | (with_reducible first | exact HB.out | apply below_alloc | apply pw_below_drewN | apply below_drew1 | refine below_set ?_ GE153.out) | exact HB.out)⟩⟩
                            · rw [if_neg c61] at H
                              exact absurd H (by simp)
                          · rw [if_neg c60] at H
                            exact absurd H (by simp)
                        · rw [if_neg c59] at H
                          exact absurd H (by simp)
                      · rw [if_neg c57] at H
                        exact absurd H (by simp)
                    · rw [if_neg c56] at H
                      exact absurd H (by simp)
                  · rw [if_neg c55] at H
                    have c55b0 : (((rd_T30 l1 x12_1).f1).toList == ([] : List UInt8)) = false := beq_eq_false_iff_ne.mpr c55
                    have c55b1 : (((rd_T30 l1 x12_1).f1).toList != ([] : List UInt8)) = true := bne_iff_ne.mpr c55
                    by_cases c65 : 1 + ((rd_T30 l1 x12_1).f1).size ≤ 9223372036854775807
                    · rw [if_pos c65] at H
                      have c65b0 := eq_true c65
                      have c65b1 : decide (1 + ((rd_T30 l1 x12_1).f1).size ≤ 9223372036854775807) = true := decide_eq_true c65
                      try have c65b2 : (9223372036854775807 < 1 + ((rd_T30 l1 x12_1).f1).size) = False := eq_false (Nat.not_lt.2 c65)
                      by_cases c66 : (Utf8.encode (wrap32 ((rd_T30 l1 x12_1).f0))).size + ((⟨#[58]⟩ : ByteArray) ++ ((rd_T30 l1 x12_1).f1)).size ≤ 9223372036854775807
                      · rw [if_pos c66] at H
                        have c66b0 := eq_true c66
                        have c66b1 : decide ((Utf8.encode (wrap32 ((rd_T30 l1 x12_1).f0))).size + ((⟨#[58]⟩ : ByteArray) ++ ((rd_T30 l1 x12_1).f1)).size ≤ 9223372036854775807) = true := decide_eq_true c66
                        try have c66b2 : (9223372036854775807 < (Utf8.encode (wrap32 ((rd_T30 l1 x12_1).f0))).size + ((⟨#[58]⟩ : ByteArray) ++ ((rd_T30 l1 x12_1).f1)).size) = False := eq_false (Nat.not_lt.2 c66)
                        try have c66b4 : (9223372036854775807 < (Utf8.encode (wrap32 ((rd_T30 l1 x12_1).f0))).size + (1 + ((rd_T30 l1 x12_1).f1).size)) = False := eq_false (by have h_ := c66; (repeat rw [ByteArray.size_append] at h_); exact Nat.not_lt.2 h_)
                        by_cases c67 : 3 + ((Utf8.encode (wrap32 ((rd_T30 l1 x12_1).f0))) ++ ((⟨#[58]⟩ : ByteArray) ++ ((rd_T30 l1 x12_1).f1))).size ≤ 9223372036854775807
                        · rw [if_pos c67] at H
                          have c67b0 := eq_true c67
                          have c67b1 : decide (3 + ((Utf8.encode (wrap32 ((rd_T30 l1 x12_1).f0))) ++ ((⟨#[58]⟩ : ByteArray) ++ ((rd_T30 l1 x12_1).f1))).size ≤ 9223372036854775807) = true := decide_eq_true c67
                          try have c67b2 : (9223372036854775807 < 3 + ((Utf8.encode (wrap32 ((rd_T30 l1 x12_1).f0))) ++ ((⟨#[58]⟩ : ByteArray) ++ ((rd_T30 l1 x12_1).f1))).size) = False := eq_false (Nat.not_lt.2 c67)
                          try have c67b4 : (9223372036854775807 < 3 + ((Utf8.encode (wrap32 ((rd_T30 l1 x12_1).f0))).size + (1 + ((rd_T30 l1 x12_1).f1).size))) = False := eq_false (by have h_ := c67; (repeat rw [ByteArray.size_append] at h_); exact Nat.not_lt.2 h_)
                          by_cases c68 : ((⟨#[58, 58, 123]⟩ : ByteArray) ++ ((Utf8.encode (wrap32 ((rd_T30 l1 x12_1).f0))) ++ ((⟨#[58]⟩ : ByteArray) ++ ((rd_T30 l1 x12_1).f1)))).size + 1 ≤ 9223372036854775807
                          · rw [if_pos c68] at H
                            have c68b0 := eq_true c68
                            have c68b1 : decide (((⟨#[58, 58, 123]⟩ : ByteArray) ++ ((Utf8.encode (wrap32 ((rd_T30 l1 x12_1).f0))) ++ ((⟨#[58]⟩ : ByteArray) ++ ((rd_T30 l1 x12_1).f1)))).size + 1 ≤ 9223372036854775807) = true := decide_eq_true c68
                            try have c68b2 : (9223372036854775807 < ((⟨#[58, 58, 123]⟩ : ByteArray) ++ ((Utf8.encode (wrap32 ((rd_T30 l1 x12_1).f0))) ++ ((⟨#[58]⟩ : ByteArray) ++ ((rd_T30 l1 x12_1).f1)))).size + 1) = False := eq_false (Nat.not_lt.2 c68)
                            try have c68b4 : (9223372036854775807 < 3 + ((Utf8.encode (wrap32 ((rd_T30 l1 x12_1).f0))).size + (1 + ((rd_T30 l1 x12_1).f1).size)) + 1) = False := eq_false (by have h_ := c68; (repeat rw [ByteArray.size_append] at h_); exact Nat.not_lt.2 h_)
                            replace H := Option.bind_eq_some_iff.mp H
                            obtain ⟨t159, A690, H⟩ := H
                            replace H : (if (((⟨#[58, 58, 123]⟩ : ByteArray) ++ ((Utf8.encode (wrap32 ((rd_T30 l1 x12_1).f0))) ++ ((⟨#[58]⟩ : ByteArray) ++ ((rd_T30 l1 x12_1).f1)))) ++ (⟨#[35]⟩ : ByteArray)).size + t159.size ≤ 9223372036854775807 then (if ((((⟨#[58, 58, 123]⟩ : ByteArray) ++ ((Utf8.encode (wrap32 ((rd_T30 l1 x12_1).f0))) ++ ((⟨#[58]⟩ : ByteArray) ++ ((rd_T30 l1 x12_1).f1)))) ++ (⟨#[35]⟩ : ByteArray)) ++ t159).size + 1 ≤ 9223372036854775807 then (if x5_1.size + (((((⟨#[58, 58, 123]⟩ : ByteArray) ++ ((Utf8.encode (wrap32 ((rd_T30 l1 x12_1).f0))) ++ ((⟨#[58]⟩ : ByteArray) ++ ((rd_T30 l1 x12_1).f1)))) ++ (⟨#[35]⟩ : ByteArray)) ++ t159) ++ (⟨#[125]⟩ : ByteArray)).size ≤ 9223372036854775807 then (spec_IdText.l0 k1 (x5_1 ++ (((((⟨#[58, 58, 123]⟩ : ByteArray) ++ ((Utf8.encode (wrap32 ((rd_T30 l1 x12_1).f0))) ++ ((⟨#[58]⟩ : ByteArray) ++ ((rd_T30 l1 x12_1).f1)))) ++ (⟨#[35]⟩ : ByteArray)) ++ t159) ++ (⟨#[125]⟩ : ByteArray))) l1 (l1.length : Int) (wrap64 (x12_1 + 1))) else (none)) else (none)) else (none)) = some r := H
                            have A69 := Aside0.mk A690
                            clear A690
                            by_cases c70 : (((⟨#[58, 58, 123]⟩ : ByteArray) ++ ((Utf8.encode (wrap32 ((rd_T30 l1 x12_1).f0))) ++ ((⟨#[58]⟩ : ByteArray) ++ ((rd_T30 l1 x12_1).f1)))) ++ (⟨#[35]⟩ : ByteArray)).size + t159.size ≤ 9223372036854775807
                            · rw [if_pos c70] at H
                              have c70b0 := eq_true c70
                              have c70b1 : decide ((((⟨#[58, 58, 123]⟩ : ByteArray) ++ ((Utf8.encode (wrap32 ((rd_T30 l1 x12_1).f0))) ++ ((⟨#[58]⟩ : ByteArray) ++ ((rd_T30 l1 x12_1).f1)))) ++ (⟨#[35]⟩ : ByteArray)).size + t159.size ≤ 9223372036854775807) = true := decide_eq_true c70
                              try have c70b2 : (9223372036854775807 < (((⟨#[58, 58, 123]⟩ : ByteArray) ++ ((Utf8.encode (wrap32 ((rd_T30 l1 x12_1).f0))) ++ ((⟨#[58]⟩ : ByteArray) ++ ((rd_T30 l1 x12_1).f1)))) ++ (⟨#[35]⟩ : ByteArray)).size + t159.size) = False := eq_false (Nat.not_lt.2 c70)
                              try have c70b4 : (9223372036854775807 < 3 + ((Utf8.encode (wrap32 ((rd_T30 l1 x12_1).f0))).size + (1 + ((rd_T30 l1 x12_1).f1).size)) + 1 + t159.size) = False := eq_false (by have h_ := c70; (repeat rw [ByteArray.size_append] at h_); exact Nat.not_lt.2 h_)
                              by_cases c71 : ((((⟨#[58, 58, 123]⟩ : ByteArray) ++ ((Utf8.encode (wrap32 ((rd_T30 l1 x12_1).f0))) ++ ((⟨#[58]⟩ : ByteArray) ++ ((rd_T30 l1 x12_1).f1)))) ++ (⟨#[35]⟩ : ByteArray)) ++ t159).size + 1 ≤ 9223372036854775807
                              · rw [if_pos c71] at H
                                have c71b0 := eq_true c71
                                have c71b1 : decide (((((⟨#[58, 58, 123]⟩ : ByteArray) ++ ((Utf8.encode (wrap32 ((rd_T30 l1 x12_1).f0))) ++ ((⟨#[58]⟩ : ByteArray) ++ ((rd_T30 l1 x12_1).f1)))) ++ (⟨#[35]⟩ : ByteArray)) ++ t159).size + 1 ≤ 9223372036854775807) = true := decide_eq_true c71
                                try have c71b2 : (9223372036854775807 < ((((⟨#[58, 58, 123]⟩ : ByteArray) ++ ((Utf8.encode (wrap32 ((rd_T30 l1 x12_1).f0))) ++ ((⟨#[58]⟩ : ByteArray) ++ ((rd_T30 l1 x12_1).f1)))) ++ (⟨#[35]⟩ : ByteArray)) ++ t159).size + 1) = False := eq_false (Nat.not_lt.2 c71)
                                try have c71b4 : (9223372036854775807 < 3 + ((Utf8.encode (wrap32 ((rd_T30 l1 x12_1).f0))).size + (1 + ((rd_T30 l1 x12_1).f1).size)) + 1 + t159.size + 1) = False := eq_false (by have h_ := c71; (repeat rw [ByteArray.size_append] at h_); exact Nat.not_lt.2 h_)
                                by_cases c72 : x5_1.size + (((((⟨#[58, 58, 123]⟩ : ByteArray) ++ ((Utf8.encode (wrap32 ((rd_T30 l1 x12_1).f0))) ++ ((⟨#[58]⟩ : ByteArray) ++ ((rd_T30 l1 x12_1).f1)))) ++ (⟨#[35]⟩ : ByteArray)) ++ t159) ++ (⟨#[125]⟩ : ByteArray)).size ≤ 9223372036854775807
                                · rw [if_pos c72] at H
                                  have c72b0 := eq_true c72
                                  have c72b1 : decide (x5_1.size + (((((⟨#[58, 58, 123]⟩ : ByteArray) ++ ((Utf8.encode (wrap32 ((rd_T30 l1 x12_1).f0))) ++ ((⟨#[58]⟩ : ByteArray) ++ ((rd_T30 l1 x12_1).f1)))) ++ (⟨#[35]⟩ : ByteArray)) ++ t159) ++ (⟨#[125]⟩ : ByteArray)).size ≤ 9223372036854775807) = true := decide_eq_true c72
                                  try have c72b2 : (9223372036854775807 < x5_1.size + (((((⟨#[58, 58, 123]⟩ : ByteArray) ++ ((Utf8.encode (wrap32 ((rd_T30 l1 x12_1).f0))) ++ ((⟨#[58]⟩ : ByteArray) ++ ((rd_T30 l1 x12_1).f1)))) ++ (⟨#[35]⟩ : ByteArray)) ++ t159) ++ (⟨#[125]⟩ : ByteArray)).size) = False := eq_false (Nat.not_lt.2 c72)
                                  try have c72b4 : (9223372036854775807 < x5_1.size + (3 + ((Utf8.encode (wrap32 ((rd_T30 l1 x12_1).f0))).size + (1 + ((rd_T30 l1 x12_1).f1).size)) + 1 + t159.size + 1)) = False := eq_false (by have h_ := c72; (repeat rw [ByteArray.size_append] at h_); exact Nat.not_lt.2 h_)
                                  have H' := Aside0.mk H
                                  clear H
                                  have p152 : 0 ≤ (x12_1 : Int) := of_decide_eq_true (by first | (with_reducible assumption) | assumption)
                                  have q152 : x12_1 < (l1.length : Int) := of_decide_eq_true (by first | (with_reducible assumption) | assumption)
                                  obtain ⟨ad152, e152, hx152_0, hx152_1, hx152_2⟩ := at_T30 HR1.out x12_1 p152 q152
                                  cases e152
                                  replace hx152_0 := (HB.out.cell (World.block_lt_of_cell? w _ hx152_0)).trans hx152_0
                                  replace hx152_1 := (HB.out.cell (World.block_lt_of_cell? w _ hx152_1)).trans hx152_1
                                  replace hx152_2 := (HB.out.cell (World.block_lt_of_cell? w _ hx152_2)).trans hx152_2
                                  replace p152 := eq_true p152
                                  replace q152 := eq_true q152
                                  go_wp2_with (first | ((with_reducible refine gate_dst (N := 7) rfl ?_); refine box_event ?hg (N := 7) ?hd (cs := #[.int .u8 0, .string (⟨#[]⟩ : ByteArray), .int .u64 0]) (t := 30) ?hr ?_; (case hd => rfl); (case hg => rfl); (case hr => first | (go_simp; done) | (go_simp; rfl)); intro gb153 hg w73 hbox hb; have n0_ := Aside0.mk (below_step (by repeat (first | (with_reducible first | exact HB.out | apply below_alloc | apply pw_below_drewN | apply below_drew1) | exact HB.out)) hb); have n1_ := Aside0.mk (hbox); have n2_ := Aside0.mk ((by rw [hg]; exact (below_size (by repeat (first | (with_reducible first | exact HB.out | apply below_alloc | apply pw_below_drewN | apply below_drew1) | exact HB.out))) : w.heap.size ≤ gb153)); have n3_ := Aside0.mk ((by rw [hg]; exact (below_size (by repeat (first | (with_reducible first | exact HB.out | apply below_alloc | apply pw_below_drewN | apply below_drew1) | exact HB.out))) : w.heap.size ≤ gb153)); clear HB; have HB := n0_; have BK153 := n1_; have GW153 := n2_; have GE153 := n3_; clear n0_ n1_ n2_ n3_; clear hb hbox hg; have hcz74_0 : w73.cell? ⟨gb153, 0, none⟩ = some (.int .u8 0) := (blk_cell BK153.out 0).trans rfl; have hcz74_1 : w73.cell? ⟨gb153, 1, none⟩ = some (.string (⟨#[]⟩ : ByteArray)) := (blk_cell BK153.out 1).trans rfl; have hcz74_2 : w73.cell? ⟨gb153, 2, none⟩ = some (.int .u64 0) := (blk_cell BK153.out 2).trans rfl; have hfz74_0 := blk_frozen BK153.out 0; have hfz74_1 := blk_frozen BK153.out 1; have hfz74_2 := blk_frozen BK153.out 2) | ((with_reducible refine gate_callee (f := 14) rfl ?_); refine goesL_ (some 48) rfl rfl Tryz.func14 (by kernel_rfl) rfl #[.int .u64 ((rd_T30 l1 x12_1).f2), .int .i64 10] rfl (by (try simp only [List.map_toArray, List.map_cons, List.map_nil]); first | done | rfl | (simp only [List.length_drop, List.length_take]; rfl)) ?_; (with_reducible refine (strconv_FormatUint.calls ((rd_T30 l1 x12_1).f2) 10 t159 _ (show DoorU _ from ?side1) A69.out).mono ?_); (case side1 => exact Stays.below hT_ (by first | (repeat (first | (with_reducible first | exact HB.out | apply below_alloc | apply pw_below_drewN | apply below_drew1 | refine below_set ?_ GE153.out) | exact HB.out)) | (repeat (first | exact Below.refl _ _ | apply below_drew1 | apply pw_below_drewN)))); rintro e w75 ⟨rfl, hb⟩; refine ⟨_, rfl, ?_⟩; have n0_ := Aside0.mk (blk_below (g := gb153) (o := .cells #[.int .u8 ((rd_T30 l1 x12_1).f0), .string ((rd_T30 l1 x12_1).f1), .int .u64 ((rd_T30 l1 x12_1).f2)] 30 (0, 0)) (by (with_reducible repeat (first | refine blk_drewN ?_ _ | refine blk_drew ?_ | refine blk_alloc ?_ _)); refine blk_put (cs := #[.int .u8 ((rd_T30 l1 x12_1).f0), .string ((rd_T30 l1 x12_1).f1), .int .u64 0]) ?_ 2 _ rfl; (with_reducible repeat (first | refine blk_drewN ?_ _ | refine blk_drew ?_ | refine blk_alloc ?_ _)); refine blk_put (cs := #[.int .u8 ((rd_T30 l1 x12_1).f0), .string (⟨#[]⟩ : ByteArray), .int .u64 0]) ?_ 1 _ rfl; (with_reducible repeat (first | refine blk_drewN ?_ _ | refine blk_drew ?_ | refine blk_alloc ?_ _)); refine blk_put (cs := #[.int .u8 0, .string (⟨#[]⟩ : ByteArray), .int .u64 0]) ?_ 0 _ rfl; (with_reducible repeat (first | refine blk_drewN ?_ _ | refine blk_drew ?_ | refine blk_alloc ?_ _)); exact BK153.out) hb); have n1_ := Aside0.mk (below_step (by repeat (first | (with_reducible first | exact HB.out | apply below_alloc | apply pw_below_drewN | apply below_drew1 | refine below_set ?_ GE153.out) | exact HB.out)) hb); clear BK153; clear HB; have BK153 := n0_; have HB := n1_; clear n0_ n1_; (try clear hb); (try clear hb2); (try clear hk); (try clear hi)))
                                  go_roundg k1
                                  case measure => have := HK1.out; omega
                                  case rel => exact ⟨(x5_1 ++ (((((⟨#[58, 58, 123]⟩ : ByteArray) ++ ((Utf8.encode (wrap32 ((rd_T30 l1 x12_1).f0))) ++ ((⟨#[58]⟩ : ByteArray) ++ ((rd_T30 l1 x12_1).f1)))) ++ (⟨#[35]⟩ : ByteArray)) ++ t159) ++ (⟨#[125]⟩ : ByteArray))), (wrap64 (x12_1 + 1)), (by first | rfl | (simp; done) | (simp [*]; done)), (by first | rfl | (simp; done) | (simp [*]; done)), H', ⟨by have := HK1.out; omega⟩, ⟨by repeat (first | (with_reducible first | exact HB.out | apply below_alloc | apply pw_below_drewN | apply below_drew1 | refine below_set ?_ GE153.out) | exact HB.out)⟩⟩
                                · rw [if_neg c72] at H
                                  exact absurd H (by simp)
                              · rw [if_neg c71] at H
                                exact absurd H (by simp)
                            · rw [if_neg c70] at H
                              exact absurd H (by simp)
                          · rw [if_neg c68] at H
                            exact absurd H (by simp)
                        · rw [if_neg c67] at H
                          exact absurd H (by simp)
                      · rw [if_neg c66] at H
                        exact absurd H (by simp)
                    · rw [if_neg c65] at H
                      exact absurd H (by simp)
          · rw [if_neg c5] at H
            exact absurd H (by simp)
        · rw [if_neg c4] at H
          exact absurd H (by simp)
      · rw [if_neg c3] at H
        have c3b0 : decide (x12_1 < (l1.length : Int)) = false := decide_eq_false c3
        clear c3
        obtain rfl := Option.some.inj H
        go_wp2
        go_ret
        exact ⟨by first | rfl | (simp [errW_none, errW_some] <;> rfl) | (simp [*, errW_none, errW_some] <;> rfl), by repeat (first | (with_reducible first | exact HB.out | apply below_alloc | apply pw_below_drewN | apply below_drew1) | exact HB.out)⟩

end Go.Proofs.YtkhbmkccbhkolaaGreatDoor.PFnUnicodeNames
