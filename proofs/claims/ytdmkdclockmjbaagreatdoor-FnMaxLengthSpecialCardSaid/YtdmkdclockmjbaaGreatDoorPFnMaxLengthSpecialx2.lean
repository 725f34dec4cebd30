/- Written by a program of this session (wip/tools/myprint.py) with the kit's print: contracts of the functions that one statement reaches; functions that are proved by hand are taken as printed. Conditions: none. -/
import Derived.Test.YtdmkdclockmjbaaGreatDoorPFnMaxLengthSpecialx0
import Derived.Test.YtdmkdclockmjbaaGreatDoorPFnMaxLengthSpecialx1
namespace Go.Proofs.YtdmkdclockmjbaaGreatDoor.PFnMaxLengthSpecial
open Go.RowKit Go.Proofs.YtdmkdclockmjbaaGreatDoorW.PrintWords Go.Proofs.YtdmkdclockmjbaaGreatDoorW.PrintLast Go.Proofs.YtdmkdclockmjbaaGreatDoorW.PrintMore
attribute [local go_sem] max2_int min2_int max_two min_two max_three min_three max_four min_four   -- for this text's walks alone
set_option linter.unusedVariables false
set_option linter.unusedSimpArgs false

/-! ### spec_IdText: function 19 -/
def spec_IdText.l0 : Nat → ByteArray → List (S43) → Int → Int → Option (ByteArray)
  | 0, _, _, _, _ => none
  | k + 1, x5, x10, x11, x12 => if x12 < x11 then (if 0 ≤ x12 then (if x12 < (x10.length : Int) then (if ((rd_T43 x10 x12).f0) ≥ 97 then (if 2 + ((rd_T43 x10 x12).f1).size ≤ 9223372036854775807 then (if x5.size + ((⟨#[58, 58]⟩ : ByteArray) ++ ((rd_T43 x10 x12).f1)).size ≤ 9223372036854775807 then (spec_IdText.l0 k (x5 ++ ((⟨#[58, 58]⟩ : ByteArray) ++ ((rd_T43 x10 x12).f1))) x10 x11 (wrap64 (x12 + 1))) else (none)) else (none)) else (if ((rd_T43 x10 x12).f0) = 67 then (if ((rd_T43 x10 x12).f1).toList = ([] : List UInt8) then (if 3 + 7 ≤ 9223372036854775807 then (if 9 + 1 ≤ 9223372036854775807 then ((strconv_FormatUint.f ((rd_T43 x10 x12).f2) 10).bind fun t120 => (if (((⟨#[58, 58, 123]⟩ : ByteArray) ++ (⟨#[99, 108, 111, 115, 117, 114, 101]⟩ : ByteArray)) ++ (⟨#[35]⟩ : ByteArray)).size + t120.size ≤ 9223372036854775807 then (if ((((⟨#[58, 58, 123]⟩ : ByteArray) ++ (⟨#[99, 108, 111, 115, 117, 114, 101]⟩ : ByteArray)) ++ (⟨#[35]⟩ : ByteArray)) ++ t120).size + 1 ≤ 9223372036854775807 then (if x5.size + (((((⟨#[58, 58, 123]⟩ : ByteArray) ++ (⟨#[99, 108, 111, 115, 117, 114, 101]⟩ : ByteArray)) ++ (⟨#[35]⟩ : ByteArray)) ++ t120) ++ (⟨#[125]⟩ : ByteArray)).size ≤ 9223372036854775807 then (spec_IdText.l0 k (x5 ++ (((((⟨#[58, 58, 123]⟩ : ByteArray) ++ (⟨#[99, 108, 111, 115, 117, 114, 101]⟩ : ByteArray)) ++ (⟨#[35]⟩ : ByteArray)) ++ t120) ++ (⟨#[125]⟩ : ByteArray))) x10 x11 (wrap64 (x12 + 1))) else (none)) else (none)) else (none))) else (none)) else (none)) else (if 1 + ((rd_T43 x10 x12).f1).size ≤ 9223372036854775807 then (if 7 + ((⟨#[58]⟩ : ByteArray) ++ ((rd_T43 x10 x12).f1)).size ≤ 9223372036854775807 then (if 3 + ((⟨#[99, 108, 111, 115, 117, 114, 101]⟩ : ByteArray) ++ ((⟨#[58]⟩ : ByteArray) ++ ((rd_T43 x10 x12).f1))).size ≤ 9223372036854775807 then (if ((⟨#[58, 58, 123]⟩ : ByteArray) ++ ((⟨#[99, 108, 111, 115, 117, 114, 101]⟩ : ByteArray) ++ ((⟨#[58]⟩ : ByteArray) ++ ((rd_T43 x10 x12).f1)))).size + 1 ≤ 9223372036854775807 then ((strconv_FormatUint.f ((rd_T43 x10 x12).f2) 10).bind fun t121 => (if (((⟨#[58, 58, 123]⟩ : ByteArray) ++ ((⟨#[99, 108, 111, 115, 117, 114, 101]⟩ : ByteArray) ++ ((⟨#[58]⟩ : ByteArray) ++ ((rd_T43 x10 x12).f1)))) ++ (⟨#[35]⟩ : ByteArray)).size + t121.size ≤ 9223372036854775807 then (if ((((⟨#[58, 58, 123]⟩ : ByteArray) ++ ((⟨#[99, 108, 111, 115, 117, 114, 101]⟩ : ByteArray) ++ ((⟨#[58]⟩ : ByteArray) ++ ((rd_T43 x10 x12).f1)))) ++ (⟨#[35]⟩ : ByteArray)) ++ t121).size + 1 ≤ 9223372036854775807 then (if x5.size + (((((⟨#[58, 58, 123]⟩ : ByteArray) ++ ((⟨#[99, 108, 111, 115, 117, 114, 101]⟩ : ByteArray) ++ ((⟨#[58]⟩ : ByteArray) ++ ((rd_T43 x10 x12).f1)))) ++ (⟨#[35]⟩ : ByteArray)) ++ t121) ++ (⟨#[125]⟩ : ByteArray)).size ≤ 9223372036854775807 then (spec_IdText.l0 k (x5 ++ (((((⟨#[58, 58, 123]⟩ : ByteArray) ++ ((⟨#[99, 108, 111, 115, 117, 114, 101]⟩ : ByteArray) ++ ((⟨#[58]⟩ : ByteArray) ++ ((rd_T43 x10 x12).f1)))) ++ (⟨#[35]⟩ : ByteArray)) ++ t121) ++ (⟨#[125]⟩ : ByteArray))) x10 x11 (wrap64 (x12 + 1))) else (none)) else (none)) else (none))) else (none)) else (none)) else (none)) else (none))) else (if ((rd_T43 x10 x12).f0) = 83 then (if ((rd_T43 x10 x12).f1).toList = ([] : List UInt8) then (if 3 + 4 ≤ 9223372036854775807 then (if 6 + 1 ≤ 9223372036854775807 then ((strconv_FormatUint.f ((rd_T43 x10 x12).f2) 10).bind fun t122 => (if (((⟨#[58, 58, 123]⟩ : ByteArray) ++ (⟨#[115, 104, 105, 109]⟩ : ByteArray)) ++ (⟨#[35]⟩ : ByteArray)).size + t122.size ≤ 9223372036854775807 then (if ((((⟨#[58, 58, 123]⟩ : ByteArray) ++ (⟨#[115, 104, 105, 109]⟩ : ByteArray)) ++ (⟨#[35]⟩ : ByteArray)) ++ t122).size + 1 ≤ 9223372036854775807 then (if x5.size + (((((⟨#[58, 58, 123]⟩ : ByteArray) ++ (⟨#[115, 104, 105, 109]⟩ : ByteArray)) ++ (⟨#[35]⟩ : ByteArray)) ++ t122) ++ (⟨#[125]⟩ : ByteArray)).size ≤ 9223372036854775807 then (spec_IdText.l0 k (x5 ++ (((((⟨#[58, 58, 123]⟩ : ByteArray) ++ (⟨#[115, 104, 105, 109]⟩ : ByteArray)) ++ (⟨#[35]⟩ : ByteArray)) ++ t122) ++ (⟨#[125]⟩ : ByteArray))) x10 x11 (wrap64 (x12 + 1))) else (none)) else (none)) else (none))) else (none)) else (none)) else (if 1 + ((rd_T43 x10 x12).f1).size ≤ 9223372036854775807 then (if 4 + ((⟨#[58]⟩ : ByteArray) ++ ((rd_T43 x10 x12).f1)).size ≤ 9223372036854775807 then (if 3 + ((⟨#[115, 104, 105, 109]⟩ : ByteArray) ++ ((⟨#[58]⟩ : ByteArray) ++ ((rd_T43 x10 x12).f1))).size ≤ 9223372036854775807 then (if ((⟨#[58, 58, 123]⟩ : ByteArray) ++ ((⟨#[115, 104, 105, 109]⟩ : ByteArray) ++ ((⟨#[58]⟩ : ByteArray) ++ ((rd_T43 x10 x12).f1)))).size + 1 ≤ 9223372036854775807 then ((strconv_FormatUint.f ((rd_T43 x10 x12).f2) 10).bind fun t123 => (if (((⟨#[58, 58, 123]⟩ : ByteArray) ++ ((⟨#[115, 104, 105, 109]⟩ : ByteArray) ++ ((⟨#[58]⟩ : ByteArray) ++ ((rd_T43 x10 x12).f1)))) ++ (⟨#[35]⟩ : ByteArray)).size + t123.size ≤ 9223372036854775807 then (if ((((⟨#[58, 58, 123]⟩ : ByteArray) ++ ((⟨#[115, 104, 105, 109]⟩ : ByteArray) ++ ((⟨#[58]⟩ : ByteArray) ++ ((rd_T43 x10 x12).f1)))) ++ (⟨#[35]⟩ : ByteArray)) ++ t123).size + 1 ≤ 9223372036854775807 then (if x5.size + (((((⟨#[58, 58, 123]⟩ : ByteArray) ++ ((⟨#[115, 104, 105, 109]⟩ : ByteArray) ++ ((⟨#[58]⟩ : ByteArray) ++ ((rd_T43 x10 x12).f1)))) ++ (⟨#[35]⟩ : ByteArray)) ++ t123) ++ (⟨#[125]⟩ : ByteArray)).size ≤ 9223372036854775807 then (spec_IdText.l0 k (x5 ++ (((((⟨#[58, 58, 123]⟩ : ByteArray) ++ ((⟨#[115, 104, 105, 109]⟩ : ByteArray) ++ ((⟨#[58]⟩ : ByteArray) ++ ((rd_T43 x10 x12).f1)))) ++ (⟨#[35]⟩ : ByteArray)) ++ t123) ++ (⟨#[125]⟩ : ByteArray))) x10 x11 (wrap64 (x12 + 1))) else (none)) else (none)) else (none))) else (none)) else (none)) else (none)) else (none))) else (if ((rd_T43 x10 x12).f1).toList = ([] : List UInt8) then (if 3 + (Utf8.encode (wrap32 ((rd_T43 x10 x12).f0))).size ≤ 9223372036854775807 then (if ((⟨#[58, 58, 123]⟩ : ByteArray) ++ (Utf8.encode (wrap32 ((rd_T43 x10 x12).f0)))).size + 1 ≤ 9223372036854775807 then ((strconv_FormatUint.f ((rd_T43 x10 x12).f2) 10).bind fun t124 => (if (((⟨#[58, 58, 123]⟩ : ByteArray) ++ (Utf8.encode (wrap32 ((rd_T43 x10 x12).f0)))) ++ (⟨#[35]⟩ : ByteArray)).size + t124.size ≤ 9223372036854775807 then (if ((((⟨#[58, 58, 123]⟩ : ByteArray) ++ (Utf8.encode (wrap32 ((rd_T43 x10 x12).f0)))) ++ (⟨#[35]⟩ : ByteArray)) ++ t124).size + 1 ≤ 9223372036854775807 then (if x5.size + (((((⟨#[58, 58, 123]⟩ : ByteArray) ++ (Utf8.encode (wrap32 ((rd_T43 x10 x12).f0)))) ++ (⟨#[35]⟩ : ByteArray)) ++ t124) ++ (⟨#[125]⟩ : ByteArray)).size ≤ 9223372036854775807 then (spec_IdText.l0 k (x5 ++ (((((⟨#[58, 58, 123]⟩ : ByteArray) ++ (Utf8.encode (wrap32 ((rd_T43 x10 x12).f0)))) ++ (⟨#[35]⟩ : ByteArray)) ++ t124) ++ (⟨#[125]⟩ : ByteArray))) x10 x11 (wrap64 (x12 + 1))) else (none)) else (none)) else (none))) else (none)) else (none)) else (if 1 + ((rd_T43 x10 x12).f1).size ≤ 9223372036854775807 then (if (Utf8.encode (wrap32 ((rd_T43 x10 x12).f0))).size + ((⟨#[58]⟩ : ByteArray) ++ ((rd_T43 x10 x12).f1)).size ≤ 9223372036854775807 then (if 3 + ((Utf8.encode (wrap32 ((rd_T43 x10 x12).f0))) ++ ((⟨#[58]⟩ : ByteArray) ++ ((rd_T43 x10 x12).f1))).size ≤ 9223372036854775807 then (if ((⟨#[58, 58, 123]⟩ : ByteArray) ++ ((Utf8.encode (wrap32 ((rd_T43 x10 x12).f0))) ++ ((⟨#[58]⟩ : ByteArray) ++ ((rd_T43 x10 x12).f1)))).size + 1 ≤ 9223372036854775807 then ((strconv_FormatUint.f ((rd_T43 x10 x12).f2) 10).bind fun t125 => (if (((⟨#[58, 58, 123]⟩ : ByteArray) ++ ((Utf8.encode (wrap32 ((rd_T43 x10 x12).f0))) ++ ((⟨#[58]⟩ : ByteArray) ++ ((rd_T43 x10 x12).f1)))) ++ (⟨#[35]⟩ : ByteArray)).size + t125.size ≤ 9223372036854775807 then (if ((((⟨#[58, 58, 123]⟩ : ByteArray) ++ ((Utf8.encode (wrap32 ((rd_T43 x10 x12).f0))) ++ ((⟨#[58]⟩ : ByteArray) ++ ((rd_T43 x10 x12).f1)))) ++ (⟨#[35]⟩ : ByteArray)) ++ t125).size + 1 ≤ 9223372036854775807 then (if x5.size + (((((⟨#[58, 58, 123]⟩ : ByteArray) ++ ((Utf8.encode (wrap32 ((rd_T43 x10 x12).f0))) ++ ((⟨#[58]⟩ : ByteArray) ++ ((rd_T43 x10 x12).f1)))) ++ (⟨#[35]⟩ : ByteArray)) ++ t125) ++ (⟨#[125]⟩ : ByteArray)).size ≤ 9223372036854775807 then (spec_IdText.l0 k (x5 ++ (((((⟨#[58, 58, 123]⟩ : ByteArray) ++ ((Utf8.encode (wrap32 ((rd_T43 x10 x12).f0))) ++ ((⟨#[58]⟩ : ByteArray) ++ ((rd_T43 x10 x12).f1)))) ++ (⟨#[35]⟩ : ByteArray)) ++ t125) ++ (⟨#[125]⟩ : ByteArray))) x10 x11 (wrap64 (x12 + 1))) else (none)) else (none)) else (none))) else (none)) else (none)) else (none)) else (none)))))) else (none)) else (none)) else (some x5)
def spec_IdText.f (k : Nat) (a0 : ByteArray) (l1 : List (S43)) : Option (ByteArray) := spec_IdText.l0 k a0 l1 (l1.length : Int) 0
theorem spec_IdText.mono_l : ∀ k, (∀ y0 y1 y2 y3, LeO (spec_IdText.l0 k y0 y1 y2 y3) (spec_IdText.l0 (k + 1) y0 y1 y2 y3))
  | 0 => fun _ _ _ _ r h => by simp [spec_IdText.l0] at h
  | k + 1 => by
    have ih0 := spec_IdText.mono_l k
    · intro y0 y1 y2 y3
      unfold spec_IdText.l0
      repeat' first
      | (with_reducible exact ih0 _ _ _ _)
      | (with_reducible exact LeO.refl _)
      | (with_reducible exact LeO.none _)
      | (with_reducible refine LeO.ite ?_ ?_)
      | (with_reducible refine LeO.bind ?_ (fun _ => ?_))
      | exact ih0 _ _ _ _
      | exact LeO.none _
      | refine LeO.ite ?_ ?_
      | refine LeO.bind ?_ (fun _ => ?_)
theorem spec_IdText.mono : ∀ a0 a1 k, LeO (spec_IdText.f k a0 a1) (spec_IdText.f (k + 1) a0 a1) := by
  intro a0 a1 k
  have ih0 := spec_IdText.mono_l k
  unfold spec_IdText.f
  repeat' first
      | (with_reducible exact ih0 _ _ _ _)
      | (with_reducible exact LeO.refl _)
      | (with_reducible exact LeO.none _)
      | (with_reducible refine LeO.ite ?_ ?_)
      | (with_reducible refine LeO.bind ?_ (fun _ => ?_))
      | exact ih0 _ _ _ _
      | exact LeO.none _
      | refine LeO.ite ?_ ?_
      | refine LeO.bind ?_ (fun _ => ?_)
set_option maxHeartbeats 8000000 in
set_option maxRecDepth 100000 in
theorem spec_IdText.calls (k : Nat) (a0 : ByteArray) (A1 : Option Addr) (c1 : Nat) (l1 : List (S43)) (r : ByteArray) (w : World) (hr1 : Kd.C k43 w A1 l1.length l1) (hc1 : l1.length ≤ c1) (hT_ : DoorIs w) (h : spec_IdText.f k a0 l1 = some r) :
    Calls Tryz.prog 19 #[.string a0, .slice A1 l1.length c1] w fun e w' => e = .returned (.string r) ∧ Below w.heap.size w w' := by
  have hu43 := Tryz.underlying43
  have HR1 := Aside0.mk hr1
  have HC1 := Aside0.mk hc1
  clear hr1 hc1
  have HB := Aside0.mk (Below.refl w.heap.size w)
  have H : (spec_IdText.l0 k a0 l1 (l1.length : Int) 0) = some r := h
  clear h
  have H' := Aside0.mk H
  clear H
  go_enter Tryz.func19, Tryz.ntmps19
  go_wp2
  go_loopg [5, 12] k (fun kq v5 v12 w' => ∃ (x5_1 : ByteArray) (x12_1 : Int), v5 = .string x5_1 ∧ v12 = .int .i64 x12_1 ∧ Aside0 (spec_IdText.l0 kq x5_1 l1 (l1.length : Int) x12_1 = some r) ∧ Aside0 (kq ≤ k) ∧ Aside0 (Below w.heap.size w w'))
  case atStart => exact ⟨(a0), (0), (by first | rfl | (simp; done) | (simp [*]; done)), (by first | rfl | (simp; done) | (simp [*]; done)), H', ⟨Nat.le_refl _⟩, ⟨by repeat (first | (with_reducible first | exact HB.out | apply below_alloc | apply pw_below_drewN | apply below_drew1) | exact HB.out)⟩⟩
  case round =>
    clear H'
    try clear c1
    try clear p2
    obtain ⟨x5_1, x12_1, rfl, rfl, HA, HK1, HB⟩ := hrel
    cases gk with
    | zero => exact absurd HA.out (by simp [spec_IdText.l0])
    | succ k1 =>
      have H := HA.out
      clear HA
      simp only [spec_IdText.l0] at H
      by_cases c3 : x12_1 < (l1.length : Int)
      · rw [if_pos c3] at H
        have c3b0 : decide (x12_1 < (l1.length : Int)) = true := decide_eq_true c3
        clear c3
        by_cases c4 : 0 ≤ x12_1
        · rw [if_pos c4] at H
          have c4b0 : decide (0 ≤ x12_1) = true := decide_eq_true c4
          clear c4
          by_cases c5 : x12_1 < (l1.length : Int)
          · rw [if_pos c5] at H
            have c5b0 : decide (x12_1 < (l1.length : Int)) = true := decide_eq_true c5
            clear c5
            by_cases c6 : ((rd_T43 l1 x12_1).f0) ≥ 97
            · rw [if_pos c6] at H
              have c6b0 : decide (97 ≤ ((rd_T43 l1 x12_1).f0)) = true := decide_eq_true c6
              clear c6
              by_cases c7 : 2 + ((rd_T43 l1 x12_1).f1).size ≤ 9223372036854775807
              · rw [if_pos c7] at H
                have c7b0 := eq_true c7
                have c7b1 : decide (2 + ((rd_T43 l1 x12_1).f1).size ≤ 9223372036854775807) = true := decide_eq_true c7
                try have c7b2 : (9223372036854775807 < 2 + ((rd_T43 l1 x12_1).f1).size) = False := eq_false (Nat.not_lt.2 c7)
                by_cases c8 : x5_1.size + ((⟨#[58, 58]⟩ : ByteArray) ++ ((rd_T43 l1 x12_1).f1)).size ≤ 9223372036854775807
                · rw [if_pos c8] at H
                  have c8b0 := eq_true c8
                  have c8b1 : decide (x5_1.size + ((⟨#[58, 58]⟩ : ByteArray) ++ ((rd_T43 l1 x12_1).f1)).size ≤ 9223372036854775807) = true := decide_eq_true c8
                  try have c8b2 : (9223372036854775807 < x5_1.size + ((⟨#[58, 58]⟩ : ByteArray) ++ ((rd_T43 l1 x12_1).f1)).size) = False := eq_false (Nat.not_lt.2 c8)
                  try have c8b4 : (9223372036854775807 < x5_1.size + (2 + ((rd_T43 l1 x12_1).f1).size)) = False := eq_false (by have h_ := c8; (repeat rw [ByteArray.size_append] at h_); exact Nat.not_lt.2 h_)
                  have H' := Aside0.mk H
                  clear H
                  have p118 : 0 ≤ (x12_1 : Int) := of_decide_eq_true (by first | (with_reducible assumption) | assumption)
                  have q118 : x12_1 < (l1.length : Int) := of_decide_eq_true (by first | (with_reducible assumption) | assumption)
                  obtain ⟨ad118, e118, hx118_0, hx118_1, hx118_2⟩ := at_T43 HR1.out x12_1 p118 q118
                  cases e118
                  replace hx118_0 := (HB.out.cell (World.block_lt_of_cell? w _ hx118_0)).trans hx118_0
                  replace hx118_1 := (HB.out.cell (World.block_lt_of_cell? w _ hx118_1)).trans hx118_1
                  replace hx118_2 := (HB.out.cell (World.block_lt_of_cell? w _ hx118_2)).trans hx118_2
                  replace p118 := eq_true p118
                  replace q118 := eq_true q118
                  go_wp2_with (first | (go_at_call 15; refine (idCut_at _ _ _ _ _ _ (by assumption) (by assumption)).mono ?_; rintro e w_ ⟨rfl, rfl⟩) | ((with_reducible refine gate_dst (N := 7) rfl ?_); refine box_event ?hg (N := 7) ?hd (cs := #[.int .u8 0, .string (⟨#[]⟩ : ByteArray), .int .u64 0]) (t := 43) ?hr ?_; (case hd => rfl); (case hg => rfl); (case hr => first | (go_simp; done) | (go_simp; rfl)); intro gb119 hg w9 hbox hb; have n0_ := Aside0.mk (below_step (by repeat (first | (with_reducible first | exact HB.out | apply below_alloc | apply pw_below_drewN | apply below_drew1) | exact HB.out)) hb); have n1_ := Aside0.mk (hbox); have n2_ := Aside0.mk ((by rw [hg]; exact (below_size (by repeat (first | (with_reducible first | exact HB.out | apply below_alloc | apply pw_below_drewN | apply below_drew1) | exact HB.out))) : w.heap.size ≤ gb119)); have n3_ := Aside0.mk ((by rw [hg]; exact (below_size (by repeat (first | (with_reducible first | exact HB.out | apply below_alloc | apply pw_below_drewN | apply below_drew1) | exact HB.out))) : w.heap.size ≤ gb119)); clear HB; have HB := n0_; have BK119 := n1_; have GW119 := n2_; have GE119 := n3_; clear n0_ n1_ n2_ n3_; clear hb hbox hg; have hcz10_0 : w9.cell? ⟨gb119, 0, none⟩ = some (.int .u8 0) := (blk_cell BK119.out 0).trans rfl; have hcz10_1 : w9.cell? ⟨gb119, 1, none⟩ = some (.string (⟨#[]⟩ : ByteArray)) := (blk_cell BK119.out 1).trans rfl; have hcz10_2 : w9.cell? ⟨gb119, 2, none⟩ = some (.int .u64 0) := (blk_cell BK119.out 2).trans rfl; have hfz10_0 := blk_frozen BK119.out 0; have hfz10_1 := blk_frozen BK119.out 1; have hfz10_2 := blk_frozen BK119.out 2))
                  go_roundg k1
                  case measure => have := HK1.out; omega
                  case rel => exact ⟨(x5_1 ++ ((⟨#[58, 58]⟩ : ByteArray) ++ ((rd_T43 l1 x12_1).f1))), (wrap64 (x12_1 + 1)), (by first | rfl | (simp; done) | (simp [*]; done)), (by first | rfl | (simp; done) | (simp [*]; done)), H', ⟨by have := HK1.out; omega⟩, ⟨by repeat (first | (with_reducible first | exact HB.out | apply below_alloc | apply pw_below_drewN | apply below_drew1 | refine below_set ?_ GE119.out) | exact HB.out)⟩⟩
                · rw [if_neg c8] at H
                  exact absurd H (by simp)
              · rw [if_neg c7] at H
                exact absurd H (by simp)
            · rw [if_neg c6] at H
              have c6b0 : decide (97 ≤ ((rd_T43 l1 x12_1).f0)) = false := decide_eq_false c6
              clear c6
              by_cases c11 : ((rd_T43 l1 x12_1).f0) = 67
              · rw [if_pos c11] at H
                have c11b0 : (((rd_T43 l1 x12_1).f0) == 67) = true := beq_iff_eq.mpr c11
                have c11b1 : (((rd_T43 l1 x12_1).f0) != 67) = false := bne_eq_false_iff_eq.mpr c11
                clear c11
                by_cases c12 : ((rd_T43 l1 x12_1).f1).toList = ([] : List UInt8)
                · rw [if_pos c12] at H
                  have c12b0 : (((rd_T43 l1 x12_1).f1).toList == ([] : List UInt8)) = true := beq_iff_eq.mpr c12
                  have c12b1 : (((rd_T43 l1 x12_1).f1).toList != ([] : List UInt8)) = false := bne_eq_false_iff_eq.mpr c12
                  clear c12
                  by_cases c13 : 3 + 7 ≤ 9223372036854775807
                  · rw [if_pos c13] at H
                    have c13b0 := eq_true c13
                    have c13b1 : decide (3 + 7 ≤ 9223372036854775807) = true := decide_eq_true c13
                    try have c13b2 : (9223372036854775807 < 3 + 7) = False := eq_false (Nat.not_lt.2 c13)
                    by_cases c14 : 9 + 1 ≤ 9223372036854775807
                    · rw [if_pos c14] at H
                      have c14b0 := eq_true c14
                      have c14b1 : decide (9 + 1 ≤ 9223372036854775807) = true := decide_eq_true c14
                      try have c14b2 : (9223372036854775807 < 9 + 1) = False := eq_false (Nat.not_lt.2 c14)
                      replace H := Option.bind_eq_some_iff.mp H
                      obtain ⟨t120, A150, H⟩ := H
                      replace H : (if (((⟨#[58, 58, 123]⟩ : ByteArray) ++ (⟨#[99, 108, 111, 115, 117, 114, 101]⟩ : ByteArray)) ++ (⟨#[35]⟩ : ByteArray)).size + t120.size ≤ 9223372036854775807 then (if ((((⟨#[58, 58, 123]⟩ : ByteArray) ++ (⟨#[99, 108, 111, 115, 117, 114, 101]⟩ : ByteArray)) ++ (⟨#[35]⟩ : ByteArray)) ++ t120).size + 1 ≤ 9223372036854775807 then (if x5_1.size + (((((⟨#[58, 58, 123]⟩ : ByteArray) ++ (⟨#[99, 108, 111, 115, 117, 114, 101]⟩ : ByteArray)) ++ (⟨#[35]⟩ : ByteArray)) ++ t120) ++ (⟨#[125]⟩ : ByteArray)).size ≤ 9223372036854775807 then (spec_IdText.l0 k1 (x5_1 ++ (((((⟨#[58, 58, 123]⟩ : ByteArray) ++ (⟨#[99, 108, 111, 115, 117, 114, 101]⟩ : ByteArray)) ++ (⟨#[35]⟩ : ByteArray)) ++ t120) ++ (⟨#[125]⟩ : ByteArray))) l1 (l1.length : Int) (wrap64 (x12_1 + 1))) else (none)) else (none)) else (none)) = some r := H
                      have A15 := Aside0.mk A150
                      clear A150
                      by_cases c16 : (((⟨#[58, 58, 123]⟩ : ByteArray) ++ (⟨#[99, 108, 111, 115, 117, 114, 101]⟩ : ByteArray)) ++ (⟨#[35]⟩ : ByteArray)).size + t120.size ≤ 9223372036854775807
                      · rw [if_pos c16] at H
                        have c16b0 := eq_true c16
                        have c16b1 : decide ((((⟨#[58, 58, 123]⟩ : ByteArray) ++ (⟨#[99, 108, 111, 115, 117, 114, 101]⟩ : ByteArray)) ++ (⟨#[35]⟩ : ByteArray)).size + t120.size ≤ 9223372036854775807) = true := decide_eq_true c16
                        try have c16b2 : (9223372036854775807 < (((⟨#[58, 58, 123]⟩ : ByteArray) ++ (⟨#[99, 108, 111, 115, 117, 114, 101]⟩ : ByteArray)) ++ (⟨#[35]⟩ : ByteArray)).size + t120.size) = False := eq_false (Nat.not_lt.2 c16)
                        try have c16b4 : (9223372036854775807 < 3 + 7 + 1 + t120.size) = False := eq_false (by have h_ := c16; (repeat rw [ByteArray.size_append] at h_); exact Nat.not_lt.2 h_)
                        by_cases c17 : ((((⟨#[58, 58, 123]⟩ : ByteArray) ++ (⟨#[99, 108, 111, 115, 117, 114, 101]⟩ : ByteArray)) ++ (⟨#[35]⟩ : ByteArray)) ++ t120).size + 1 ≤ 9223372036854775807
                        · rw [if_pos c17] at H
                          have c17b0 := eq_true c17
                          have c17b1 : decide (((((⟨#[58, 58, 123]⟩ : ByteArray) ++ (⟨#[99, 108, 111, 115, 117, 114, 101]⟩ : ByteArray)) ++ (⟨#[35]⟩ : ByteArray)) ++ t120).size + 1 ≤ 9223372036854775807) = true := decide_eq_true c17
                          try have c17b2 : (9223372036854775807 < ((((⟨#[58, 58, 123]⟩ : ByteArray) ++ (⟨#[99, 108, 111, 115, 117, 114, 101]⟩ : ByteArray)) ++ (⟨#[35]⟩ : ByteArray)) ++ t120).size + 1) = False := eq_false (Nat.not_lt.2 c17)
                          try have c17b4 : (9223372036854775807 < 3 + 7 + 1 + t120.size + 1) = False := eq_false (by have h_ := c17; (repeat rw [ByteArray.size_append] at h_); exact Nat.not_lt.2 h_)
                          by_cases c18 : x5_1.size + (((((⟨#[58, 58, 123]⟩ : ByteArray) ++ (⟨#[99, 108, 111, 115, 117, 114, 101]⟩ : ByteArray)) ++ (⟨#[35]⟩ : ByteArray)) ++ t120) ++ (⟨#[125]⟩ : ByteArray)).size ≤ 9223372036854775807
                          · rw [if_pos c18] at H
                            have c18b0 := eq_true c18
                            have c18b1 : decide (x5_1.size + (((((⟨#[58, 58, 123]⟩ : ByteArray) ++ (⟨#[99, 108, 111, 115, 117, 114, 101]⟩ : ByteArray)) ++ (⟨#[35]⟩ : ByteArray)) ++ t120) ++ (⟨#[125]⟩ : ByteArray)).size ≤ 9223372036854775807) = true := decide_eq_true c18
                            try have c18b2 : (9223372036854775807 < x5_1.size + (((((⟨#[58, 58, 123]⟩ : ByteArray) ++ (⟨#[99, 108, 111, 115, 117, 114, 101]⟩ : ByteArray)) ++ (⟨#[35]⟩ : ByteArray)) ++ t120) ++ (⟨#[125]⟩ : ByteArray)).size) = False := eq_false (Nat.not_lt.2 c18)
                            try have c18b4 : (9223372036854775807 < x5_1.size + (3 + 7 + 1 + t120.size + 1)) = False := eq_false (by have h_ := c18; (repeat rw [ByteArray.size_append] at h_); exact Nat.not_lt.2 h_)
                            have H' := Aside0.mk H
                            clear H
                            have p118 : 0 ≤ (x12_1 : Int) := of_decide_eq_true (by first | (with_reducible assumption) | assumption)
                            have q118 : x12_1 < (l1.length : Int) := of_decide_eq_true (by first | (with_reducible assumption) | assumption)
                            obtain ⟨ad118, e118, hx118_0, hx118_1, hx118_2⟩ := at_T43 HR1.out x12_1 p118 q118
                            cases e118
                            replace hx118_0 := (HB.out.cell (World.block_lt_of_cell? w _ hx118_0)).trans hx118_0
                            replace hx118_1 := (HB.out.cell (World.block_lt_of_cell? w _ hx118_1)).trans hx118_1
                            replace hx118_2 := (HB.out.cell (World.block_lt_of_cell? w _ hx118_2)).trans hx118_2
                            replace p118 := eq_true p118
                            replace q118 := eq_true q118
                            go_wp2_with (first | (go_at_call 15; refine (idCut_at _ _ _ _ _ _ (by assumption) (by assumption)).mono ?_; rintro e w_ ⟨rfl, rfl⟩) | ((with_reducible refine gate_dst (N := 7) rfl ?_); refine box_event ?hg (N := 7) ?hd (cs := #[.int .u8 0, .string (⟨#[]⟩ : ByteArray), .int .u64 0]) (t := 43) ?hr ?_; (case hd => rfl); (case hg => rfl); (case hr => first | (go_simp; done) | (go_simp; rfl)); intro gb119 hg w19 hbox hb; have n0_ := Aside0.mk (below_step (by repeat (first | (with_reducible first | exact HB.out | apply below_alloc | apply pw_below_drewN | apply below_drew1) | exact HB.out)) hb); have n1_ := Aside0.mk (hbox); have n2_ := Aside0.mk ((by rw [hg]; exact (below_size (by repeat (first | (with_reducible first | exact HB.out | apply below_alloc | apply pw_below_drewN | apply below_drew1) | exact HB.out))) : w.heap.size ≤ gb119)); have n3_ := Aside0.mk ((by rw [hg]; exact (below_size (by repeat (first | (with_reducible first | exact HB.out | apply below_alloc | apply pw_below_drewN | apply below_drew1) | exact HB.out))) : w.heap.size ≤ gb119)); clear HB; have HB := n0_; have BK119 := n1_; have GW119 := n2_; have GE119 := n3_; clear n0_ n1_ n2_ n3_; clear hb hbox hg; have hcz20_0 : w19.cell? ⟨gb119, 0, none⟩ = some (.int .u8 0) := (blk_cell BK119.out 0).trans rfl; have hcz20_1 : w19.cell? ⟨gb119, 1, none⟩ = some (.string (⟨#[]⟩ : ByteArray)) := (blk_cell BK119.out 1).trans rfl; have hcz20_2 : w19.cell? ⟨gb119, 2, none⟩ = some (.int .u64 0) := (blk_cell BK119.out 2).trans rfl; have hfz20_0 := blk_frozen BK119.out 0; have hfz20_1 := blk_frozen BK119.out 1; have hfz20_2 := blk_frozen BK119.out 2) | ((with_reducible refine gate_callee (f := 36) rfl ?_); refine goesL_ (some 48) rfl rfl Tryz.func36 (by kernel_rfl) rfl #[.int .u64 ((rd_T43 l1 x12_1).f2), .int .i64 10] rfl (by (try simp only [List.map_toArray, List.map_cons, List.map_nil]); first | done | rfl | (simp only [List.length_drop, List.length_take]; rfl)) ?_; (with_reducible refine (strconv_FormatUint.calls ((rd_T43 l1 x12_1).f2) 10 t120 _ (show DoorIs _ from ?side1) A15.out).mono ?_); (case side1 => exact Stays.below hT_ (by first | (repeat (first | (with_reducible first | exact HB.out | apply below_alloc | apply pw_below_drewN | apply below_drew1 | refine below_set ?_ GE119.out) | exact HB.out)) | (repeat (first | exact Below.refl _ _ | apply below_drew1 | apply pw_below_drewN)))); rintro e w21 ⟨rfl, hb⟩; refine ⟨_, rfl, ?_⟩; have n0_ := Aside0.mk (blk_below (g := gb119) (o := .cells #[.int .u8 ((rd_T43 l1 x12_1).f0), .string ((rd_T43 l1 x12_1).f1), .int .u64 ((rd_T43 l1 x12_1).f2)] 43 (0, 0)) (by (with_reducible repeat (first | refine blk_drewN ?_ _ | refine blk_drew ?_ | refine blk_alloc ?_ _)); refine blk_put (cs := #[.int .u8 ((rd_T43 l1 x12_1).f0), .string ((rd_T43 l1 x12_1).f1), .int .u64 0]) ?_ 2 _ rfl; (with_reducible repeat (first | refine blk_drewN ?_ _ | refine blk_drew ?_ | refine blk_alloc ?_ _)); refine blk_put (cs := #[.int .u8 ((rd_T43 l1 x12_1).f0), .string (⟨#[]⟩ : ByteArray), .int .u64 0]) ?_ 1 _ rfl; (with_reducible repeat (first | refine blk_drewN ?_ _ | refine blk_drew ?_ | refine blk_alloc ?_ _)); refine blk_put (cs := #[.int .u8 0, .string (⟨#[]⟩ : ByteArray), .int .u64 0]) ?_ 0 _ rfl; (with_reducible repeat (first | refine blk_drewN ?_ _ | refine blk_drew ?_ | refine blk_alloc ?_ _)); exact BK119.out) hb); have n1_ := Aside0.mk (below_step (by repeat (first | (with_reducible first | exact HB.out | apply below_alloc | apply pw_below_drewN | apply below_drew1 | refine below_set ?_ GE119.out) | exact HB.out)) hb); clear BK119; clear HB; have BK119 := n0_; have HB := n1_; clear n0_ n1_; (try clear hb); (try clear hb2); (try clear hk); (try clear hi)))
                            go_roundg k1
                            case measure => have := HK1.out; omega
                            case rel => exact ⟨(x5_1 ++ (((((⟨#[58, 58, 123]⟩ : ByteArray) ++ (⟨#[99, 108, 111, 115, 117, 114, 101]⟩ : ByteArray)) ++ (⟨#[35]⟩ : ByteArray)) ++ t120) ++ (⟨#[125]⟩ : ByteArray))), (wrap64 (x12_1 + 1)), (by first | rfl | (simp; done) | (simp [*]; done)), (by first | rfl | (simp; done) | (simp [*]; done)), H', ⟨by have := HK1.out; omega⟩, ⟨by repeat (first | (with_reducible first | exact HB.out | apply below_alloc | apply pw_below_drewN | apply below_drew1 | refine below_set ?_ GE119.out) | exact HB.out)⟩⟩
                          · rw [if_neg c18] at H
                            exact absurd H (by simp)
                        · rw [if_neg c17] at H
                          exact absurd H (by simp)
                      · rw [if_neg c16] at H
                        exact absurd H (by simp)
                    · rw [if_neg c14] at H
                      exact absurd H (by simp)
                  · rw [if_neg c13] at H
                    exact absurd H (by simp)
                · rw [if_neg c12] at H
                  have c12b0 : (((rd_T43 l1 x12_1).f1).toList == ([] : List UInt8)) = false := beq_eq_false_iff_ne.mpr c12
                  have c12b1 : (((rd_T43 l1 x12_1).f1).toList != ([] : List UInt8)) = true := bne_iff_ne.mpr c12
                  by_cases c22 : 1 + ((rd_T43 l1 x12_1).f1).size ≤ 9223372036854775807
                  · rw [if_pos c22] at H
                    have c22b0 := eq_true c22
                    have c22b1 : decide (1 + ((rd_T43 l1 x12_1).f1).size ≤ 9223372036854775807) = true := decide_eq_true c22
                    try have c22b2 : (9223372036854775807 < 1 + ((rd_T43 l1 x12_1).f1).size) = False := eq_false (Nat.not_lt.2 c22)
                    by_cases c23 : 7 + ((⟨#[58]⟩ : ByteArray) ++ ((rd_T43 l1 x12_1).f1)).size ≤ 9223372036854775807
                    · rw [if_pos c23] at H
                      have c23b0 := eq_true c23
                      have c23b1 : decide (7 + ((⟨#[58]⟩ : ByteArray) ++ ((rd_T43 l1 x12_1).f1)).size ≤ 9223372036854775807) = true := decide_eq_true c23
                      try have c23b2 : (9223372036854775807 < 7 + ((⟨#[58]⟩ : ByteArray) ++ ((rd_T43 l1 x12_1).f1)).size) = False := eq_false (Nat.not_lt.2 c23)
                      try have c23b4 : (9223372036854775807 < 7 + (1 + ((rd_T43 l1 x12_1).f1).size)) = False := eq_false (by have h_ := c23; (repeat rw [ByteArray.size_append] at h_); exact Nat.not_lt.2 h_)
                      by_cases c24 : 3 + ((⟨#[99, 108, 111, 115, 117, 114, 101]⟩ : ByteArray) ++ ((⟨#[58]⟩ : ByteArray) ++ ((rd_T43 l1 x12_1).f1))).size ≤ 9223372036854775807
                      · rw [if_pos c24] at H
                        have c24b0 := eq_true c24
                        have c24b1 : decide (3 + ((⟨#[99, 108, 111, 115, 117, 114, 101]⟩ : ByteArray) ++ ((⟨#[58]⟩ : ByteArray) ++ ((rd_T43 l1 x12_1).f1))).size ≤ 9223372036854775807) = true := decide_eq_true c24
                        try have c24b2 : (9223372036854775807 < 3 + ((⟨#[99, 108, 111, 115, 117, 114, 101]⟩ : ByteArray) ++ ((⟨#[58]⟩ : ByteArray) ++ ((rd_T43 l1 x12_1).f1))).size) = False := eq_false (Nat.not_lt.2 c24)
                        try have c24b4 : (9223372036854775807 < 3 + (7 + (1 + ((rd_T43 l1 x12_1).f1).size))) = False := eq_false (by have h_ := c24; (repeat rw [ByteArray.size_append] at h_); exact Nat.not_lt.2 h_)
                        by_cases c25 : ((⟨#[58, 58, 123]⟩ : ByteArray) ++ ((⟨#[99, 108, 111, 115, 117, 114, 101]⟩ : ByteArray) ++ ((⟨#[58]⟩ : ByteArray) ++ ((rd_T43 l1 x12_1).f1)))).size + 1 ≤ 9223372036854775807
                        · rw [if_pos c25] at H
                          have c25b0 := eq_true c25
                          have c25b1 : decide (((⟨#[58, 58, 123]⟩ : ByteArray) ++ ((⟨#[99, 108, 111, 115, 117, 114, 101]⟩ : ByteArray) ++ ((⟨#[58]⟩ : ByteArray) ++ ((rd_T43 l1 x12_1).f1)))).size + 1 ≤ 9223372036854775807) = true := decide_eq_true c25
                          try have c25b2 : (9223372036854775807 < ((⟨#[58, 58, 123]⟩ : ByteArray) ++ ((⟨#[99, 108, 111, 115, 117, 114, 101]⟩ : ByteArray) ++ ((⟨#[58]⟩ : ByteArray) ++ ((rd_T43 l1 x12_1).f1)))).size + 1) = False := eq_false (Nat.not_lt.2 c25)
                          try have c25b4 : (9223372036854775807 < 3 + (7 + (1 + ((rd_T43 l1 x12_1).f1).size)) + 1) = False := eq_false (by have h_ := c25; (repeat rw [ByteArray.size_append] at h_); exact Nat.not_lt.2 h_)
                          replace H := Option.bind_eq_some_iff.mp H
                          obtain ⟨t121, A260, H⟩ := H
                          replace H : (if (((⟨#[58, 58, 123]⟩ : ByteArray) ++ ((⟨#[99, 108, 111, 115, 117, 114, 101]⟩ : ByteArray) ++ ((⟨#[58]⟩ : ByteArray) ++ ((rd_T43 l1 x12_1).f1)))) ++ (⟨#[35]⟩ : ByteArray)).size + t121.size ≤ 9223372036854775807 then (if ((((⟨#[58, 58, 123]⟩ : ByteArray) ++ ((⟨#[99, 108, 111, 115, 117, 114, 101]⟩ : ByteArray) ++ ((⟨#[58]⟩ : ByteArray) ++ ((rd_T43 l1 x12_1).f1)))) ++ (⟨#[35]⟩ : ByteArray)) ++ t121).size + 1 ≤ 9223372036854775807 then (if x5_1.size + (((((⟨#[58, 58, 123]⟩ : ByteArray) ++ ((⟨#[99, 108, 111, 115, 117, 114, 101]⟩ : ByteArray) ++ ((⟨#[58]⟩ : ByteArray) ++ ((rd_T43 l1 x12_1).f1)))) ++ (⟨#[35]⟩ : ByteArray)) ++ t121) ++ (⟨#[125]⟩ : ByteArray)).size ≤ 9223372036854775807 then (spec_IdText.l0 k1 (x5_1 ++ (((((⟨#[58, 58, 123]⟩ : ByteArray) ++ ((⟨#[99, 108, 111, 115, 117, 114, 101]⟩ : ByteArray) ++ ((⟨#[58]⟩ : ByteArray) ++ ((rd_T43 l1 x12_1).f1)))) ++ (⟨#[35]⟩ : ByteArray)) ++ t121) ++ (⟨#[125]⟩ : ByteArray))) l1 (l1.length : Int) (wrap64 (x12_1 + 1))) else (none)) else (none)) else (none)) = some r := H
                          have A26 := Aside0.mk A260
                          clear A260
                          by_cases c27 : (((⟨#[58, 58, 123]⟩ : ByteArray) ++ ((⟨#[99, 108, 111, 115, 117, 114, 101]⟩ : ByteArray) ++ ((⟨#[58]⟩ : ByteArray) ++ ((rd_T43 l1 x12_1).f1)))) ++ (⟨#[35]⟩ : ByteArray)).size + t121.size ≤ 9223372036854775807
                          · rw [if_pos c27] at H
                            have c27b0 := eq_true c27
                            have c27b1 : decide ((((⟨#[58, 58, 123]⟩ : ByteArray) ++ ((⟨#[99, 108, 111, 115, 117, 114, 101]⟩ : ByteArray) ++ ((⟨#[58]⟩ : ByteArray) ++ ((rd_T43 l1 x12_1).f1)))) ++ (⟨#[35]⟩ : ByteArray)).size + t121.size ≤ 9223372036854775807) = true := decide_eq_true c27
                            try have c27b2 : (9223372036854775807 < (((⟨#[58, 58, 123]⟩ : ByteArray) ++ ((⟨#[99, 108, 111, 115, 117, 114, 101]⟩ : ByteArray) ++ ((⟨#[58]⟩ : ByteArray) ++ ((rd_T43 l1 x12_1).f1)))) ++ (⟨#[35]⟩ : ByteArray)).size + t121.size) = False := eq_false (Nat.not_lt.2 c27)
                            try have c27b4 : (9223372036854775807 < 3 + (7 + (1 + ((rd_T43 l1 x12_1).f1).size)) + 1 + t121.size) = False := eq_false (by have h_ := c27; (repeat rw [ByteArray.size_append] at h_); exact Nat.not_lt.2 h_)
                            by_cases c28 : ((((⟨#[58, 58, 123]⟩ : ByteArray) ++ ((⟨#[99, 108, 111, 115, 117, 114, 101]⟩ : ByteArray) ++ ((⟨#[58]⟩ : ByteArray) ++ ((rd_T43 l1 x12_1).f1)))) ++ (⟨#[35]⟩ : ByteArray)) ++ t121).size + 1 ≤ 9223372036854775807
                            · rw [if_pos c28] at H
                              have c28b0 := eq_true c28
                              have c28b1 : decide (((((⟨#[58, 58, 123]⟩ : ByteArray) ++ ((⟨#[99, 108, 111, 115, 117, 114, 101]⟩ : ByteArray) ++ ((⟨#[58]⟩ : ByteArray) ++ ((rd_T43 l1 x12_1).f1)))) ++ (⟨#[35]⟩ : ByteArray)) ++ t121).size + 1 ≤ 9223372036854775807) = true := decide_eq_true c28
                              try have c28b2 : (9223372036854775807 < ((((⟨#[58, 58, 123]⟩ : ByteArray) ++ ((⟨#[99, 108, 111, 115, 117, 114, 101]⟩ : ByteArray) ++ ((⟨#[58]⟩ : ByteArray) ++ ((rd_T43 l1 x12_1).f1)))) ++ (⟨#[35]⟩ : ByteArray)) ++ t121).size + 1) = False := eq_false (Nat.not_lt.2 c28)
                              try have c28b4 : (9223372036854775807 < 3 + (7 + (1 + ((rd_T43 l1 x12_1).f1).size)) + 1 + t121.size + 1) = False := eq_false (by have h_ := c28; (repeat rw [ByteArray.size_append] at h_); exact Nat.not_lt.2 h_)
                              by_cases c29 : x5_1.size + (((((⟨#[58, 58, 123]⟩ : ByteArray) ++ ((⟨#[99, 108, 111, 115, 117, 114, 101]⟩ : ByteArray) ++ ((⟨#[58]⟩ : ByteArray) ++ ((rd_T43 l1 x12_1).f1)))) ++ (⟨#[35]⟩ : ByteArray)) ++ t121) ++ (⟨#[125]⟩ : ByteArray)).size ≤ 9223372036854775807
                              · rw [if_pos c29] at H
                                have c29b0 := eq_true c29
                                have c29b1 : decide (x5_1.size + (((((⟨#[58, 58, 123]⟩ : ByteArray) ++ ((⟨#[99, 108, 111, 115, 117, 114, 101]⟩ : ByteArray) ++ ((⟨#[58]⟩ : ByteArray) ++ ((rd_T43 l1 x12_1).f1)))) ++ (⟨#[35]⟩ : ByteArray)) ++ t121) ++ (⟨#[125]⟩ : ByteArray)).size ≤ 9223372036854775807) = true := decide_eq_true c29
                                try have c29b2 : (9223372036854775807 < x5_1.size + (((((⟨#[58, 58, 123]⟩ : ByteArray) ++ ((⟨#[99, 108, 111, 115, 117, 114, 101]⟩ : ByteArray) ++ ((⟨#[58]⟩ : ByteArray) ++ ((rd_T43 l1 x12_1).f1)))) ++ (⟨#[35]⟩ : ByteArray)) ++ t121) ++ (⟨#[125]⟩ : ByteArray)).size) = False := eq_false (Nat.not_lt.2 c29)
                                try have c29b4 : (9223372036854775807 < x5_1.size + (3 + (7 + (1 + ((rd_T43 l1 x12_1).f1).size)) + 1 + t121.size + 1)) = False := eq_false (by have h_ := c29; (repeat rw [ByteArray.size_append] at h_); exact Nat.not_lt.2 h_)
                                have H' := Aside0.mk H
                                clear H
                                have p118 : 0 ≤ (x12_1 : Int) := of_decide_eq_true (by first | (with_reducible assumption) | assumption)
                                have q118 : x12_1 < (l1.length : Int) := of_decide_eq_true (by first | (with_reducible assumption) | assumption)
                                obtain ⟨ad118, e118, hx118_0, hx118_1, hx118_2⟩ := at_T43 HR1.out x12_1 p118 q118
                                cases e118
                                replace hx118_0 := (HB.out.cell (World.block_lt_of_cell? w _ hx118_0)).trans hx118_0
                                replace hx118_1 := (HB.out.cell (World.block_lt_of_cell? w _ hx118_1)).trans hx118_1
                                replace hx118_2 := (HB.out.cell (World.block_lt_of_cell? w _ hx118_2)).trans hx118_2
                                replace p118 := eq_true p118
                                replace q118 := eq_true q118
                                go_wp2_with (first | (go_at_call 15; refine (idCut_at _ _ _ _ _ _ (by assumption) (by assumption)).mono ?_; rintro e w_ ⟨rfl, rfl⟩) | ((with_reducible refine gate_dst (N := 7) rfl ?_); refine box_event ?hg (N := 7) ?hd (cs := #[.int .u8 0, .string (⟨#[]⟩ : ByteArray), .int .u64 0]) (t := 43) ?hr ?_; (case hd => rfl); (case hg => rfl); (case hr => first | (go_simp; done) | (go_simp; rfl)); intro gb119 hg w30 hbox hb; have n0_ := Aside0.mk (below_step (by repeat (first | (with_reducible first | exact HB.out | apply below_alloc | apply pw_below_drewN | apply below_drew1) | exact HB.out)) hb); have n1_ := Aside0.mk (hbox); have n2_ := Aside0.mk ((by rw [hg]; exact (below_size (by repeat (first | (with_reducible first | exact HB.out | apply below_alloc | apply pw_below_drewN | apply below_drew1) | exact HB.out))) : w.heap.size ≤ gb119)); have n3_ := Aside0.mk ((by rw [hg]; exact (below_size (by repeat (first | (with_reducible first | exact HB.out | apply below_alloc | apply pw_below_drewN | apply below_drew1) | exact HB.out))) : w.heap.size ≤ gb119)); clear HB; have HB := n0_; have BK119 := n1_; have GW119 := n2_; have GE119 := n3_; clear n0_ n1_ n2_ n3_; clear hb hbox hg; have hcz31_0 : w30.cell? ⟨gb119, 0, none⟩ = some (.int .u8 0) := (blk_cell BK119.out 0).trans rfl; have hcz31_1 : w30.cell? ⟨gb119, 1, none⟩ = some (.string (⟨#[]⟩ : ByteArray)) := (blk_cell BK119.out 1).trans rfl; have hcz31_2 : w30.cell? ⟨gb119, 2, none⟩ = some (.int .u64 0) := (blk_cell BK119.out 2).trans rfl; have hfz31_0 := blk_frozen BK119.out 0; have hfz31_1 := blk_frozen BK119.out 1; have hfz31_2 := blk_frozen BK119.out 2) | ((with_reducible refine gate_callee (f := 36) rfl ?_); refine goesL_ (some 48) rfl rfl Tryz.func36 (by kernel_rfl) rfl #[.int .u64 ((rd_T43 l1 x12_1).f2), .int .i64 10] rfl (by (try simp only [List.map_toArray, List.map_cons, List.map_nil]); first | done | rfl | (simp only [List.length_drop, List.length_take]; rfl)) ?_; (with_reducible refine (strconv_FormatUint.calls ((rd_T43 l1 x12_1).f2) 10 t121 _ (show DoorIs _ from ?side1) A26.out).mono ?_); (case side1 => exact Stays.below hT_ (by first | (repeat (first | (with_reducible first | exact HB.out | apply below_alloc | apply pw_below_drewN | apply below_drew1 | refine below_set ?_ GE119.out) | exact HB.out)) | (repeat (first | exact Below.refl _ _ | apply below_drew1 | apply pw_below_drewN)))); rintro e w32 ⟨rfl, hb⟩; refine ⟨_, rfl, ?_⟩; have n0_ := Aside0.mk (blk_below (g := gb119) (o := .cells #[.int .u8 ((rd_T43 l1 x12_1).f0), .string ((rd_T43 l1 x12_1).f1), .int .u64 ((rd_T43 l1 x12_1).f2)] 43 (0, 0)) (by (with_reducible repeat (first | refine blk_drewN ?_ _ | refine blk_drew ?_ | refine blk_alloc ?_ _)); refine blk_put (cs := #[.int .u8 ((rd_T43 l1 x12_1).f0), .string ((rd_T43 l1 x12_1).f1), .int .u64 0]) ?_ 2 _ rfl; (with_reducible repeat (first | refine blk_drewN ?_ _ | refine blk_drew ?_ | refine blk_alloc ?_ _)); refine blk_put (cs := #[.int .u8 ((rd_T43 l1 x12_1).f0), .string (⟨#[]⟩ : ByteArray), .int .u64 0]) ?_ 1 _ rfl; (with_reducible repeat (first | refine blk_drewN ?_ _ | refine blk_drew ?_ | refine blk_alloc ?_ _)); refine blk_put (cs := #[.int .u8 0, .string (⟨#[]⟩ : ByteArray), .int .u64 0]) ?_ 0 _ rfl; (with_reducible repeat (first | refine blk_drewN ?_ _ | refine blk_drew ?_ | refine blk_alloc ?_ _)); exact BK119.out) hb); have n1_ := Aside0.mk (below_step (by repeat (first | (with_reducible first | exact HB.out | apply below_alloc | apply pw_below_drewN | apply below_drew1 | refine below_set ?_ GE119.out) | exact HB.out)) hb); clear BK119; clear HB; have BK119 := n0_; have HB := n1_; clear n0_ n1_; (try clear hb); (try clear hb2); (try clear hk); (try clear hi)))
                                go_roundg k1
                                case measure => have := HK1.out; omega
                                case rel => exact ⟨(x5_1 ++ (((((⟨#[58, 58, 123]⟩ : ByteArray) ++ ((⟨#[99, 108, 111, 115, 117, 114, 101]⟩ : ByteArray) ++ ((⟨#[58]⟩ : ByteArray) ++ ((rd_T43 l1 x12_1).f1)))) ++ (⟨#[35]⟩ : ByteArray)) ++ t121) ++ (⟨#[125]⟩ : ByteArray))), (wrap64 (x12_1 + 1)), (by first | rfl | (simp; done) | (simp [*]; done)), (by first | rfl | (simp; done) | (simp [*]; done)), H', ⟨by have := HK1.out; omega⟩, ⟨by repeat (first | (with_reducible first | exact HB.out | apply below_alloc | apply pw_below_drewN | apply below_drew1 | refine below_set ?_ GE119.out) | exact HB.out)⟩⟩
                              · rw [if_neg c29] at H
                                exact absurd H (by simp)
                            · rw [if_neg c28] at H
                              exact absurd H (by simp)
                          · rw [if_neg c27] at H
                            exact absurd H (by simp)
                        · rw [if_neg c25] at H
                          exact absurd H (by simp)
                      · rw [if_neg c24] at H
                        exact absurd H (by simp)
                    · rw [if_neg c23] at H
                      exact absurd H (by simp)
                  · rw [if_neg c22] at H
                    exact absurd H (by simp)
              · rw [if_neg c11] at H
                have c11b0 : (((rd_T43 l1 x12_1).f0) == 67) = false := beq_eq_false_iff_ne.mpr c11
                have c11b1 : (((rd_T43 l1 x12_1).f0) != 67) = true := bne_iff_ne.mpr c11
                by_cases c33 : ((rd_T43 l1 x12_1).f0) = 83
                · rw [if_pos c33] at H
                  have c33b0 : (((rd_T43 l1 x12_1).f0) == 83) = true := beq_iff_eq.mpr c33
                  have c33b1 : (((rd_T43 l1 x12_1).f0) != 83) = false := bne_eq_false_iff_eq.mpr c33
                  clear c33
                  by_cases c34 : ((rd_T43 l1 x12_1).f1).toList = ([] : List UInt8)
                  · rw [if_pos c34] at H
                    have c34b0 : (((rd_T43 l1 x12_1).f1).toList == ([] : List UInt8)) = true := beq_iff_eq.mpr c34
                    have c34b1 : (((rd_T43 l1 x12_1).f1).toList != ([] : List UInt8)) = false := bne_eq_false_iff_eq.mpr c34
                    clear c34
                    by_cases c35 : 3 + 4 ≤ 9223372036854775807
                    · rw [if_pos c35] at H
                      have c35b0 := eq_true c35
                      have c35b1 : decide (3 + 4 ≤ 9223372036854775807) = true := decide_eq_true c35
                      try have c35b2 : (9223372036854775807 < 3 + 4) = False := eq_false (Nat.not_lt.2 c35)
                      by_cases c36 : 6 + 1 ≤ 9223372036854775807
                      · rw [if_pos c36] at H
                        have c36b0 := eq_true c36
                        have c36b1 : decide (6 + 1 ≤ 9223372036854775807) = true := decide_eq_true c36
                        try have c36b2 : (9223372036854775807 < 6 + 1) = False := eq_false (Nat.not_lt.2 c36)
                        replace H := Option.bind_eq_some_iff.mp H
                        obtain ⟨t122, A370, H⟩ := H
                        replace H : (if (((⟨#[58, 58, 123]⟩ : ByteArray) ++ (⟨#[115, 104, 105, 109]⟩ : ByteArray)) ++ (⟨#[35]⟩ : ByteArray)).size + t122.size ≤ 9223372036854775807 then (if ((((⟨#[58, 58, 123]⟩ : ByteArray) ++ (⟨#[115, 104, 105, 109]⟩ : ByteArray)) ++ (⟨#[35]⟩ : ByteArray)) ++ t122).size + 1 ≤ 9223372036854775807 then (if x5_1.size + (((((⟨#[58, 58, 123]⟩ : ByteArray) ++ (⟨#[115, 104, 105, 109]⟩ : ByteArray)) ++ (⟨#[35]⟩ : ByteArray)) ++ t122) ++ (⟨#[125]⟩ : ByteArray)).size ≤ 9223372036854775807 then (spec_IdText.l0 k1 (x5_1 ++ (((((⟨#[58, 58, 123]⟩ : ByteArray) ++ (⟨#[115, 104, 105, 109]⟩ : ByteArray)) ++ (⟨#[35]⟩ : ByteArray)) ++ t122) ++ (⟨#[125]⟩ : ByteArray))) l1 (l1.length : Int) (wrap64 (x12_1 + 1))) else (none)) else (none)) else (none)) = some r := H
                        have A37 := Aside0.mk A370
                        clear A370
                        by_cases c38 : (((⟨#[58, 58, 123]⟩ : ByteArray) ++ (⟨#[115, 104, 105, 109]⟩ : ByteArray)) ++ (⟨#[35]⟩ : ByteArray)).size + t122.size ≤ 9223372036854775807
                        · rw [if_pos c38] at H
                          have c38b0 := eq_true c38
                          have c38b1 : decide ((((⟨#[58, 58, 123]⟩ : ByteArray) ++ (⟨#[115, 104, 105, 109]⟩ : ByteArray)) ++ (⟨#[35]⟩ : ByteArray)).size + t122.size ≤ 9223372036854775807) = true := decide_eq_true c38
                          try have c38b2 : (9223372036854775807 < (((⟨#[58, 58, 123]⟩ : ByteArray) ++ (⟨#[115, 104, 105, 109]⟩ : ByteArray)) ++ (⟨#[35]⟩ : ByteArray)).size + t122.size) = False := eq_false (Nat.not_lt.2 c38)
                          try have c38b4 : (9223372036854775807 < 3 + 4 + 1 + t122.size) = False := eq_false (by have h_ := c38; (repeat rw [ByteArray.size_append] at h_); exact Nat.not_lt.2 h_)
                          by_cases c39 : ((((⟨#[58, 58, 123]⟩ : ByteArray) ++ (⟨#[115, 104, 105, 109]⟩ : ByteArray)) ++ (⟨#[35]⟩ : ByteArray)) ++ t122).size + 1 ≤ 9223372036854775807
                          · rw [if_pos c39] at H
                            have c39b0 := eq_true c39
                            have c39b1 : decide (((((⟨#[58, 58, 123]⟩ : ByteArray) ++ (⟨#[115, 104, 105, 109]⟩ : ByteArray)) ++ (⟨#[35]⟩ : ByteArray)) ++ t122).size + 1 ≤ 9223372036854775807) = true := decide_eq_true c39
                            try have c39b2 : (9223372036854775807 < ((((⟨#[58, 58, 123]⟩ : ByteArray) ++ (⟨#[115, 104, 105, 109]⟩ : ByteArray)) ++ (⟨#[35]⟩ : ByteArray)) ++ t122).size + 1) = False := eq_false (Nat.not_lt.2 c39)
                            try have c39b4 : (9223372036854775807 < 3 + 4 + 1 + t122.size + 1) = False := eq_false (by have h_ := c39; (repeat rw [ByteArray.size_append] at h_); exact Nat.not_lt.2 h_)
                            by_cases c40 : x5_1.size + (((((⟨#[58, 58, 123]⟩ : ByteArray) ++ (⟨#[115, 104, 105, 109]⟩ : ByteArray)) ++ (⟨#[35]⟩ : ByteArray)) ++ t122) ++ (⟨#[125]⟩ : ByteArray)).size ≤ 9223372036854775807
                            · rw [if_pos c40] at H
                              have c40b0 := eq_true c40
                              have c40b1 : decide (x5_1.size + (((((⟨#[58, 58, 123]⟩ : ByteArray) ++ (⟨#[115, 104, 105, 109]⟩ : ByteArray)) ++ (⟨#[35]⟩ : ByteArray)) ++ t122) ++ (⟨#[125]⟩ : ByteArray)).size ≤ 9223372036854775807) = true := decide_eq_true c40
                              try have c40b2 : (9223372036854775807 < x5_1.size + (((((⟨#[58, 58, 123]⟩ : ByteArray) ++ (⟨#[115, 104, 105, 109]⟩ : ByteArray)) ++ (⟨#[35]⟩ : ByteArray)) ++ t122) ++ (⟨#[125]⟩ : ByteArray)).size) = False := eq_false (Nat.not_lt.2 c40)
                              try have c40b4 : (9223372036854775807 < x5_1.size + (3 + 4 + 1 + t122.size + 1)) = False := eq_false (by have h_ := c40; (repeat rw [ByteArray.size_append] at h_); exact Nat.not_lt.2 h_)
                              have H' := Aside0.mk H
                              clear H
                              have p118 : 0 ≤ (x12_1 : Int) := of_decide_eq_true (by first | (with_reducible assumption) | assumption)
                              have q118 : x12_1 < (l1.length : Int) := of_decide_eq_true (by first | (with_reducible assumption) | assumption)
                              obtain ⟨ad118, e118, hx118_0, hx118_1, hx118_2⟩ := at_T43 HR1.out x12_1 p118 q118
                              cases e118
                              replace hx118_0 := (HB.out.cell (World.block_lt_of_cell? w _ hx118_0)).trans hx118_0
                              replace hx118_1 := (HB.out.cell (World.block_lt_of_cell? w _ hx118_1)).trans hx118_1
                              replace hx118_2 := (HB.out.cell (World.block_lt_of_cell? w _ hx118_2)).trans hx118_2
                              replace p118 := eq_true p118
                              replace q118 := eq_true q118
                              go_wp2_with (first | (go_at_call 15; refine (idCut_at _ _ _ _ _ _ (by assumption) (by assumption)).mono ?_; rintro e w_ ⟨rfl, rfl⟩) | ((with_reducible refine gate_dst (N := 7) rfl ?_); refine box_event ?hg (N := 7) ?hd (cs := #[.int .u8 0, .string (⟨#[]⟩ : ByteArray), .int .u64 0]) (t := 43) ?hr ?_; (case hd => rfl); (case hg => rfl); (case hr => first | (go_simp; done) | (go_simp; rfl)); intro gb119 hg w41 hbox hb; have n0_ := Aside0.mk (below_step (by repeat (first | (with_reducible first | exact HB.out | apply below_alloc | apply pw_below_drewN | apply below_drew1) | exact HB.out)) hb); have n1_ := Aside0.mk (hbox); have n2_ := Aside0.mk ((by rw [hg]; exact (below_size (by repeat (first | (with_reducible first | exact HB.out | apply below_alloc | apply pw_below_drewN | apply below_drew1) | exact HB.out))) : w.heap.size ≤ gb119)); have n3_ := Aside0.mk ((by rw [hg]; exact (below_size (by repeat (first | (with_reducible first | exact HB.out | apply below_alloc | apply pw_below_drewN | apply below_drew1) | exact HB.out))) : w.heap.size ≤ gb119)); clear HB; have HB := n0_; have BK119 := n1_; have GW119 := n2_; have GE119 := n3_; clear n0_ n1_ n2_ n3_; clear hb hbox hg; have hcz42_0 : w41.cell? ⟨gb119, 0, none⟩ = some (.int .u8 0) := (blk_cell BK119.out 0).trans rfl; have hcz42_1 : w41.cell? ⟨gb119, 1, none⟩ = some (.string (⟨#[]⟩ : ByteArray)) := (blk_cell BK119.out 1).trans rfl; have hcz42_2 : w41.cell? ⟨gb119, 2, none⟩ = some (.int .u64 0) := (blk_cell BK119.out 2).trans rfl; have hfz42_0 := blk_frozen BK119.out 0; have hfz42_1 := blk_frozen BK119.out 1; have hfz42_2 := blk_frozen BK119.out 2) | ((with_reducible refine gate_callee (f := 36) rfl ?_); refine goesL_ (some 48) rfl rfl Tryz.func36 (by kernel_rfl) rfl #[.int .u64 ((rd_T43 l1 x12_1).f2), .int .i64 10] rfl (by (try simp only [List.map_toArray, List.map_cons, List.map_nil]); first | done | rfl | (simp only [List.length_drop, List.length_take]; rfl)) ?_; (with_reducible refine (strconv_FormatUint.calls ((rd_T43 l1 x12_1).f2) 10 t122 _ (show DoorIs _ from ?side1) A37.out).mono ?_); (case side1 => exact Stays.below hT_ (by first | (repeat (first | (with_reducible first | exact HB.out | apply below_alloc | apply pw_below_drewN | apply below_drew1 | refine below_set ?_ GE119.out) | exact HB.out)) | (repeat (first | exact Below.refl _ _ | apply below_drew1 | apply pw_below_drewN)))); rintro e w43 ⟨rfl, hb⟩; refine ⟨_, rfl, ?_⟩; have n0_ := Aside0.mk (blk_below (g := gb119) (o := .cells #[.int .u8 ((rd_T43 l1 x12_1).f0), .string ((rd_T43 l1 x12_1).f1), .int .u64 ((rd_T43 l1 x12_1).f2)] 43 (0, 0)) (by (with_reducible repeat (first | refine blk_drewN ?_ _ | refine blk_drew ?_ | refine blk_alloc ?_ _)); refine blk_put (cs := #[.int .u8 ((rd_T43 l1 x12_1).f0), .string ((rd_T43 l1 x12_1).f1), .int .u64 0]) ?_ 2 _ rfl; (with_reducible repeat (first | refine blk_drewN ?_ _ | refine blk_drew ?_ | refine blk_alloc ?_ _)); refine blk_put (cs := #[.int .u8 ((rd_T43 l1 x12_1).f0), .string (⟨#[]⟩ : ByteArray), .int .u64 0]) ?_ 1 _ rfl; (with_reducible repeat (first | refine blk_drewN ?_ _ | refine blk_drew ?_ | refine blk_alloc ?_ _)); refine blk_put (cs := #[.int .u8 0, .string (⟨#[]⟩ : ByteArray), .int .u64 0]) ?_ 0 _ rfl; (with_reducible repeat (first | refine blk_drewN ?_ _ | refine blk_drew ?_ | refine blk_alloc ?_ _)); exact BK119.out) hb); have n1_ := Aside0.mk (below_step (by repeat (first | (with_reducible first | exact HB.out | apply below_alloc | apply pw_below_drewN | apply below_drew1 | refine below_set ?_ GE119.out) | exact HB.out)) hb); clear BK119; clear HB; have BK119 := n0_; have HB := n1_; clear n0_ n1_; (try clear hb); (try clear hb2); (try clear hk); (try clear hi)))
                              go_roundg k1
                              case measure => have := HK1.out; omega
                              case rel => exact ⟨(x5_1 ++ (((((⟨#[58, 58, 123]⟩ : ByteArray) ++ (⟨#[115, 104, 105, 109]⟩ : ByteArray)) ++ (⟨#[35]⟩ : ByteArray)) ++ t122) ++ (⟨#[125]⟩ : ByteArray))), (wrap64 (x12_1 + 1)), (by first | rfl | (simp; done) | (simp [*]; done)), (by first | rfl | (simp; done) | (simp [*]; done)), H', ⟨by have := HK1.out; omega⟩, ⟨by repeat (first | (with_reducible first | exact HB.out | apply below_alloc | apply pw_below_drewN | apply below_drew1 | refine below_set ?_ GE119.out) | exact HB.out)⟩⟩
                            · rw [if_neg c40] at H
                              exact absurd H (by simp)
                          · rw [if_neg c39] at H
                            exact absurd H (by simp)
                        · rw [if_neg c38] at H
                          exact absurd H (by simp)
                      · rw [if_neg c36] at H
                        exact absurd H (by simp)
                    · rw [if_neg c35] at H
                      exact absurd H (by simp)
                  · rw [if_neg c34] at H
                    have c34b0 : (((rd_T43 l1 x12_1).f1).toList == ([] : List UInt8)) = false := beq_eq_false_iff_ne.mpr c34
                    have c34b1 : (((rd_T43 l1 x12_1).f1).toList != ([] : List UInt8)) = true := bne_iff_ne.mpr c34
                    by_cases c44 : 1 + ((rd_T43 l1 x12_1).f1).size ≤ 9223372036854775807
                    · rw [if_pos c44] at H
                      have c44b0 := eq_true c44
                      have c44b1 : decide (1 + ((rd_T43 l1 x12_1).f1).size ≤ 9223372036854775807) = true := decide_eq_true c44
                      try have c44b2 : (9223372036854775807 < 1 + ((rd_T43 l1 x12_1).f1).size) = False := eq_false (Nat.not_lt.2 c44)
                      by_cases c45 : 4 + ((⟨#[58]⟩ : ByteArray) ++ ((rd_T43 l1 x12_1).f1)).size ≤ 9223372036854775807
                      · rw [if_pos c45] at H
                        have c45b0 := eq_true c45
                        have c45b1 : decide (4 + ((⟨#[58]⟩ : ByteArray) ++ ((rd_T43 l1 x12_1).f1)).size ≤ 9223372036854775807) = true := decide_eq_true c45
                        try have c45b2 : (9223372036854775807 < 4 + ((⟨#[58]⟩ : ByteArray) ++ ((rd_T43 l1 x12_1).f1)).size) = False := eq_false (Nat.not_lt.2 c45)
                        try have c45b4 : (9223372036854775807 < 4 + (1 + ((rd_T43 l1 x12_1).f1).size)) = False := eq_false (by have h_ := c45; (repeat rw [ByteArray.size_append] at h_); exact Nat.not_lt.2 h_)
                        by_cases c46 : 3 + ((⟨#[115, 104, 105, 109]⟩ : ByteArray) ++ ((⟨#[58]⟩ : ByteArray) ++ ((rd_T43 l1 x12_1).f1))).size ≤ 9223372036854775807
                        · rw [if_pos c46] at H
                          have c46b0 := eq_true c46
                          have c46b1 : decide (3 + ((⟨#[115, 104, 105, 109]⟩ : ByteArray) ++ ((⟨#[58]⟩ : ByteArray) ++ ((rd_T43 l1 x12_1).f1))).size ≤ 9223372036854775807) = true := decide_eq_true c46
                          try have c46b2 : (9223372036854775807 < 3 + ((⟨#[115, 104, 105, 109]⟩ : ByteArray) ++ ((⟨#[58]⟩ : ByteArray) ++ ((rd_T43 l1 x12_1).f1))).size) = False := eq_false (Nat.not_lt.2 c46)
                          try have c46b4 : (9223372036854775807 < 3 + (4 + (1 + ((rd_T43 l1 x12_1).f1).size))) = False := eq_false (by have h_ := c46; (repeat rw [ByteArray.size_append] at h_); exact Nat.not_lt.2 h_)
                          by_cases c47 : ((⟨#[58, 58, 123]⟩ : ByteArray) ++ ((⟨#[115, 104, 105, 109]⟩ : ByteArray) ++ ((⟨#[58]⟩ : ByteArray) ++ ((rd_T43 l1 x12_1).f1)))).size + 1 ≤ 9223372036854775807
                          · rw [if_pos c47] at H
                            have c47b0 := eq_true c47
                            have c47b1 : decide (((⟨#[58, 58, 123]⟩ : ByteArray) ++ ((⟨#[115, 104, 105, 109]⟩ : ByteArray) ++ ((⟨#[58]⟩ : ByteArray) ++ ((rd_T43 l1 x12_1).f1)))).size + 1 ≤ 9223372036854775807) = true := decide_eq_true c47
                            try have c47b2 : (9223372036854775807 < ((⟨#[58, 58, 123]⟩ : ByteArray) ++ ((⟨#[115, 104, 105, 109]⟩ : ByteArray) ++ ((⟨#[58]⟩ : ByteArray) ++ ((rd_T43 l1 x12_1).f1)))).size + 1) = False := eq_false (Nat.not_lt.2 c47)
                            try have c47b4 : (9223372036854775807 < 3 + (4 + (1 + ((rd_T43 l1 x12_1).f1).size)) + 1) = False := eq_false (by have h_ := c47; (repeat rw [ByteArray.size_append] at h_); exact Nat.not_lt.2 h_)
                            replace H := Option.bind_eq_some_iff.mp H
                            obtain ⟨t123, A480, H⟩ := H
                            replace H : (if (((⟨#[58, 58, 123]⟩ : ByteArray) ++ ((⟨#[115, 104, 105, 109]⟩ : ByteArray) ++ ((⟨#[58]⟩ : ByteArray) ++ ((rd_T43 l1 x12_1).f1)))) ++ (⟨#[35]⟩ : ByteArray)).size + t123.size ≤ 9223372036854775807 then (if ((((⟨#[58, 58, 123]⟩ : ByteArray) ++ ((⟨#[115, 104, 105, 109]⟩ : ByteArray) ++ ((⟨#[58]⟩ : ByteArray) ++ ((rd_T43 l1 x12_1).f1)))) ++ (⟨#[35]⟩ : ByteArray)) ++ t123).size + 1 ≤ 9223372036854775807 then (if x5_1.size + (((((⟨#[58, 58, 123]⟩ : ByteArray) ++ ((⟨#[115, 104, 105, 109]⟩ : ByteArray) ++ ((⟨#[58]⟩ : ByteArray) ++ ((rd_T43 l1 x12_1).f1)))) ++ (⟨#[35]⟩ : ByteArray)) ++ t123) ++ (⟨#[125]⟩ : ByteArray)).size ≤ 9223372036854775807 then (spec_IdText.l0 k1 (x5_1 ++ (((((⟨#[58, 58, 123]⟩ : ByteArray) ++ ((⟨#[115, 104, 105, 109]⟩ : ByteArray) ++ ((⟨#[58]⟩ : ByteArray) ++ ((rd_T43 l1 x12_1).f1)))) ++ (⟨#[35]⟩ : ByteArray)) ++ t123) ++ (⟨#[125]⟩ : ByteArray))) l1 (l1.length : Int) (wrap64 (x12_1 + 1))) else (none)) else (none)) else (none)) = some r := H
                            have A48 := Aside0.mk A480
                            clear A480
                            by_cases c49 : (((⟨#[58, 58, 123]⟩ : ByteArray) ++ ((⟨#[115, 104, 105, 109]⟩ : ByteArray) ++ ((⟨#[58]⟩ : ByteArray) ++ ((rd_T43 l1 x12_1).f1)))) ++ (⟨#[35]⟩ : ByteArray)).size + t123.size ≤ 9223372036854775807
                            · rw [if_pos c49] at H
                              have c49b0 := eq_true c49
                              have c49b1 : decide ((((⟨#[58, 58, 123]⟩ : ByteArray) ++ ((⟨#[115, 104, 105, 109]⟩ : ByteArray) ++ ((⟨#[58]⟩ : ByteArray) ++ ((rd_T43 l1 x12_1).f1)))) ++ (⟨#[35]⟩ : ByteArray)).size + t123.size ≤ 9223372036854775807) = true := decide_eq_true c49
                              try have c49b2 : (9223372036854775807 < (((⟨#[58, 58, 123]⟩ : ByteArray) ++ ((⟨#[115, 104, 105, 109]⟩ : ByteArray) ++ ((⟨#[58]⟩ : ByteArray) ++ ((rd_T43 l1 x12_1).f1)))) ++ (⟨#[35]⟩ : ByteArray)).size + t123.size) = False := eq_false (Nat.not_lt.2 c49)
                              try have c49b4 : (9223372036854775807 < 3 + (4 + (1 + ((rd_T43 l1 x12_1).f1).size)) + 1 + t123.size) = False := eq_false (by have h_ := c49; (repeat rw [ByteArray.size_append] at h_); exact Nat.not_lt.2 h_)
                              by_cases c50 : ((((⟨#[58, 58, 123]⟩ : ByteArray) ++ ((⟨#[115, 104, 105, 109]⟩ : ByteArray) ++ ((⟨#[58]⟩ : ByteArray) ++ ((rd_T43 l1 x12_1).f1)))) ++ (⟨#[35]⟩ : ByteArray)) ++ t123).size + 1 ≤ 9223372036854775807
                              · rw [if_pos c50] at H
                                have c50b0 := eq_true c50
                                have c50b1 : decide (((((⟨#[58, 58, 123]⟩ : ByteArray) ++ ((⟨#[115, 104, 105, 109]⟩ : ByteArray) ++ ((⟨#[58]⟩ : ByteArray) ++ ((rd_T43 l1 x12_1).f1)))) ++ (⟨#[35]⟩ : ByteArray)) ++ t123).size + 1 ≤ 9223372036854775807) = true := decide_eq_true c50
                                try have c50b2 : (9223372036854775807 < ((((⟨#[58, 58, 123]⟩ : ByteArray) ++ ((⟨#[115, 104, 105, 109]⟩ : ByteArray) ++ ((⟨#[58]⟩ : ByteArray) ++ ((rd_T43 l1 x12_1).f1)))) ++ (⟨#[35]⟩ : ByteArray)) ++ t123).size + 1) = False := eq_false (Nat.not_lt.2 c50)
                                try have c50b4 : (9223372036854775807 < 3 + (4 + (1 + ((rd_T43 l1 x12_1).f1).size)) + 1 + t123.size + 1) = False := eq_false (by have h_ := c50; (repeat rw [ByteArray.size_append] at h_); exact Nat.not_lt.2 h_)
                                by_cases c51 : x5_1.size + (((((⟨#[58, 58, 123]⟩ : ByteArray) ++ ((⟨#[115, 104, 105, 109]⟩ : ByteArray) ++ ((⟨#[58]⟩ : ByteArray) ++ ((rd_T43 l1 x12_1).f1)))) ++ (⟨#[35]⟩ : ByteArray)) ++ t123) ++ (⟨#[125]⟩ : ByteArray)).size ≤ 9223372036854775807
                                · rw [if_pos c51] at H
                                  have c51b0 := eq_true c51
                                  have c51b1 : decide (x5_1.size + (((((⟨#[58, 58, 123]⟩ : ByteArray) ++ ((⟨#[115, 104, 105, 109]⟩ : ByteArray) ++ ((⟨#[58]⟩ : ByteArray) ++ ((rd_T43 l1 x12_1).f1)))) ++ (⟨#[35]⟩ : ByteArray)) ++ t123) ++ (⟨#[125]⟩ : ByteArray)).size ≤ 9223372036854775807) = true := decide_eq_true c51
                                  try have c51b2 : (9223372036854775807 < x5_1.size + (((((⟨#[58, 58, 123]⟩ : ByteArray) ++ ((⟨#[115, 104, 105, 109]⟩ : ByteArray) ++ ((⟨#[58]⟩ : ByteArray) ++ ((rd_T43 l1 x12_1).f1)))) ++ (⟨#[35]⟩ : ByteArray)) ++ t123) ++ (⟨#[125]⟩ : ByteArray)).size) = False := eq_false (Nat.not_lt.2 c51)
                                  try have c51b4 : (9223372036854775807 < x5_1.size + (3 + (4 + (1 + ((rd_T43 l1 x12_1).f1).size)) + 1 + t123.size + 1)) = False := eq_false (by have h_ := c51; (repeat rw [ByteArray.size_append] at h_); exact Nat.not_lt.2 h_)
                                  have H' := Aside0.mk H
                                  clear H
                                  have p118 : 0 ≤ (x12_1 : Int) := of_decide_eq_true (by first | (with_reducible assumption) | assumption)
                                  have q118 : x12_1 < (l1.length : Int) := of_decide_eq_true (by first | (with_reducible assumption) | assumption)
                                  obtain ⟨ad118, e118, hx118_0, hx118_1, hx118_2⟩ := at_T43 HR1.out x12_1 p118 q118
                                  cases e118
                                  replace hx118_0 := (HB.out.cell (World.block_lt_of_cell? w _ hx118_0)).trans hx118_0
                                  replace hx118_1 := (HB.out.cell (World.block_lt_of_cell? w _ hx118_1)).trans hx118_1
                                  replace hx118_2 := (HB.out.cell (World.block_lt_of_cell? w _ hx118_2)).trans hx118_2
                                  replace p118 := eq_true p118
                                  replace q118 := eq_true q118
                                  go_wp2_with (first | (go_at_call 15; refine (idCut_at _ _ _ _ _ _ (by assumption) (by assumption)).mono ?_; rintro e w_ ⟨rfl, rfl⟩) | ((with_reducible refine gate_dst (N := 7) rfl ?_); refine box_event ?hg (N := 7) ?hd (cs := #[.int .u8 0, .string (⟨#[]⟩ : ByteArray), .int .u64 0]) (t := 43) ?hr ?_; (case hd => rfl); (case hg => rfl); (case hr => first | (go_simp; done) | (go_simp; rfl)); intro gb119 hg w52 hbox hb; have n0_ := Aside0.mk (below_step (by repeat (first | (with_reducible first | exact HB.out | apply below_alloc | apply pw_below_drewN | apply below_drew1) | exact HB.out)) hb); have n1_ := Aside0.mk (hbox); have n2_ := Aside0.mk ((by rw [hg]; exact (below_size (by repeat (first | (with_reducible first | exact HB.out | apply below_alloc | apply pw_below_drewN | apply below_drew1) | exact HB.out))) : w.heap.size ≤ gb119)); have n3_ := Aside0.mk ((by rw [hg]; exact (below_size (by repeat (first | (with_reducible first | exact HB.out | apply below_alloc | apply pw_below_drewN | apply below_drew1) | exact HB.out))) : w.heap.size ≤ gb119)); clear HB; have HB := n0_; have BK119 := n1_; have GW119 := n2_; have GE119 := n3_; clear n0_ n1_ n2_ n3_; clear hb hbox hg; have hcz53_0 : w52.cell? ⟨gb119, 0, none⟩ = some (.int .u8 0) := (blk_cell BK119.out 0).trans rfl; have hcz53_1 : w52.cell? ⟨gb119, 1, none⟩ = some (.string (⟨#[]⟩ : ByteArray)) := (blk_cell BK119.out 1).trans rfl; have hcz53_2 : w52.cell? ⟨gb119, 2, none⟩ = some (.int .u64 0) := (blk_cell BK119.out 2).trans rfl; have hfz53_0 := blk_frozen BK119.out 0; have hfz53_1 := blk_frozen BK119.out 1; have hfz53_2 := blk_frozen BK119.out 2) | ((with_reducible refine gate_callee (f := 36) rfl ?_); refine goesL_ (some 48) rfl rfl Tryz.func36 (by kernel_rfl) rfl #[.int .u64 ((rd_T43 l1 x12_1).f2), .int .i64 10] rfl (by (try simp only [List.map_toArray, List.map_cons, List.map_nil]); first | done | rfl | (simp only [List.length_drop, List.length_take]; rfl)) ?_; (with_reducible refine (strconv_FormatUint.calls ((rd_T43 l1 x12_1).f2) 10 t123 _ (show DoorIs _ from ?side1) A48.out).mono ?_); (case side1 => exact Stays.below hT_ (by first | (repeat (first | (with_reducible first | exact HB.out | apply below_alloc | apply pw_below_drewN | apply below_drew1 | refine below_set ?_ GE119.out) | exact HB.out)) | (repeat (first | exact Below.refl _ _ | apply below_drew1 | apply pw_below_drewN)))); rintro e w54 ⟨rfl, hb⟩; refine ⟨_, rfl, ?_⟩; have n0_ := Aside0.mk (blk_below (g := gb119) (o := .cells #[.int .u8 ((rd_T43 l1 x12_1).f0), .string ((rd_T43 l1 x12_1).f1), .int .u64 ((rd_T43 l1 x12_1).f2)] 43 (0, 0)) (by (with_reducible repeat (first | refine blk_drewN ?_ _ | refine blk_drew ?_ | refine blk_alloc ?_ _)); refine blk_put (cs := #[.int .u8 ((rd_T43 l1 x12_1).f0), .string ((rd_T43 l1 x12_1).f1), .int .u64 0]) ?_ 2 _ rfl; (with_reducible repeat (first | refine blk_drewN ?_ _ | refine blk_drew ?_ | refine blk_alloc ?_ _)); refine blk_put (cs := #[.int .u8 ((rd_T43 l1 x12_1).f0), .string (⟨#[]⟩ : ByteArray), .int .u64 0]) ?_ 1 _ rfl; (with_reducible repeat (first | refine blk_drewN ?_ _ | refine blk_drew ?_ | refine blk_alloc ?_ _)); refine blk_put (cs := #[.int .u8 0, .string (⟨#[]⟩ : ByteArray), .int .u64 0]) ?_ 0 _ rfl; (with_reducible repeat (first | refine blk_drewN ?_ _ | refine blk_drew ?_ | refine blk_alloc ?_ _)); exact BK119.out) hb); have n1_ := Aside0.mk (below_step (by repeat (first | (with_reducible first | exact HB.out | apply below_alloc | apply pw_below_drewN | apply below_drew1 | refine below_set ?_ GE119.out) | exact HB.out)) hb); clear BK119; clear HB; have BK119 := n0_; have HB := n1_; clear n0_ n1_; (try clear hb); (try clear hb2); (try clear hk); (try clear hi)))
                                  go_roundg k1
                                  case measure => have := HK1.out; omega
                                  case rel => exact ⟨(x5_1 ++ (((((⟨#[58, 58, 123]⟩ : ByteArray) ++ ((⟨#[115, 104, 105, 109]⟩ : ByteArray) ++ ((⟨#[58]⟩ : ByteArray) ++ ((rd_T43 l1 x12_1).f1)))) ++ (⟨#[35]⟩ : ByteArray)) ++ t123) ++ (⟨#[125]⟩ : ByteArray))), (wrap64 (x12_1 + 1)), (by first | rfl | (simp; done) | (simp [*]; done)), (by first | rfl | (simp; done) | (simp [*]; done)), H', ⟨by have := HK1.out; omega⟩, ⟨by repeat (first | (with_reducible first | exact HB.out | apply below_alloc | apply pw_below_drewN | apply below_drew1 | refine below_set ?_ GE119.out) | exact HB.out)⟩⟩
                                · rw [if_neg c51] at H
                                  exact absurd H (by simp)
                              · rw [if_neg c50] at H
                                exact absurd H (by simp)
                            · rw [if_neg c49] at H
                              exact absurd H (by simp)
                          · rw [if_neg c47] at H
                            exact absurd H (by simp)
                        · rw [if_neg c46] at H
                          exact absurd H (by simp)
                      · rw [if_neg c45] at H
                        exact absurd H (by simp)
                    · rw [if_neg c44] at H
                      exact absurd H (by simp)
                · rw [if_neg c33] at H
                  have c33b0 : (((rd_T43 l1 x12_1).f0) == 83) = false := beq_eq_false_iff_ne.mpr c33
                  have c33b1 : (((rd_T43 l1 x12_1).f0) != 83) = true := bne_iff_ne.mpr c33
                  by_cases c55 : ((rd_T43 l1 x12_1).f1).toList = ([] : List UInt8)
                  · rw [if_pos c55] at H
                    have c55b0 : (((rd_T43 l1 x12_1).f1).toList == ([] : List UInt8)) = true := beq_iff_eq.mpr c55
                    have c55b1 : (((rd_T43 l1 x12_1).f1).toList != ([] : List UInt8)) = false := bne_eq_false_iff_eq.mpr c55
                    clear c55
                    by_cases c56 : 3 + (Utf8.encode (wrap32 ((rd_T43 l1 x12_1).f0))).size ≤ 9223372036854775807
                    · rw [if_pos c56] at H
                      have c56b0 := eq_true c56
                      have c56b1 : decide (3 + (Utf8.encode (wrap32 ((rd_T43 l1 x12_1).f0))).size ≤ 9223372036854775807) = true := decide_eq_true c56
                      try have c56b2 : (9223372036854775807 < 3 + (Utf8.encode (wrap32 ((rd_T43 l1 x12_1).f0))).size) = False := eq_false (Nat.not_lt.2 c56)
                      by_cases c57 : ((⟨#[58, 58, 123]⟩ : ByteArray) ++ (Utf8.encode (wrap32 ((rd_T43 l1 x12_1).f0)))).size + 1 ≤ 9223372036854775807
                      · rw [if_pos c57] at H
                        have c57b0 := eq_true c57
                        have c57b1 : decide (((⟨#[58, 58, 123]⟩ : ByteArray) ++ (Utf8.encode (wrap32 ((rd_T43 l1 x12_1).f0)))).size + 1 ≤ 9223372036854775807) = true := decide_eq_true c57
                        try have c57b2 : (9223372036854775807 < ((⟨#[58, 58, 123]⟩ : ByteArray) ++ (Utf8.encode (wrap32 ((rd_T43 l1 x12_1).f0)))).size + 1) = False := eq_false (Nat.not_lt.2 c57)
                        try have c57b4 : (9223372036854775807 < 3 + (Utf8.encode (wrap32 ((rd_T43 l1 x12_1).f0))).size + 1) = False := eq_false (by have h_ := c57; (repeat rw [ByteArray.size_append] at h_); exact Nat.not_lt.2 h_)
                        replace H := Option.bind_eq_some_iff.mp H
                        obtain ⟨t124, A580, H⟩ := H
                        replace H : (if (((⟨#[58, 58, 123]⟩ : ByteArray) ++ (Utf8.encode (wrap32 ((rd_T43 l1 x12_1).f0)))) ++ (⟨#[35]⟩ : ByteArray)).size + t124.size ≤ 9223372036854775807 then (if ((((⟨#[58, 58, 123]⟩ : ByteArray) ++ (Utf8.encode (wrap32 ((rd_T43 l1 x12_1).f0)))) ++ (⟨#[35]⟩ : ByteArray)) ++ t124).size + 1 ≤ 9223372036854775807 then (if x5_1.size + (((((⟨#[58, 58, 123]⟩ : ByteArray) ++ (Utf8.encode (wrap32 ((rd_T43 l1 x12_1).f0)))) ++ (⟨#[35]⟩ : ByteArray)) ++ t124) ++ (⟨#[125]⟩ : ByteArray)).size ≤ 9223372036854775807 then (spec_IdText.l0 k1 (x5_1 ++ (((((⟨#[58, 58, 123]⟩ : ByteArray) ++ (Utf8.encode (wrap32 ((rd_T43 l1 x12_1).f0)))) ++ (⟨#[35]⟩ : ByteArray)) ++ t124) ++ (⟨#[125]⟩ : ByteArray))) l1 (l1.length : Int) (wrap64 (x12_1 + 1))) else (none)) else (none)) else (none)) = some r := H
                        have A58 := Aside0.mk A580
                        clear A580
                        by_cases c59 : (((⟨#[58, 58, 123]⟩ : ByteArray) ++ (Utf8.encode (wrap32 ((rd_T43 l1 x12_1).f0)))) ++ (⟨#[35]⟩ : ByteArray)).size + t124.size ≤ 9223372036854775807
                        · rw [if_pos c59] at H
                          have c59b0 := eq_true c59
                          have c59b1 : decide ((((⟨#[58, 58, 123]⟩ : ByteArray) ++ (Utf8.encode (wrap32 ((rd_T43 l1 x12_1).f0)))) ++ (⟨#[35]⟩ : ByteArray)).size + t124.size ≤ 9223372036854775807) = true := decide_eq_true c59
                          try have c59b2 : (9223372036854775807 < (((⟨#[58, 58, 123]⟩ : ByteArray) ++ (Utf8.encode (wrap32 ((rd_T43 l1 x12_1).f0)))) ++ (⟨#[35]⟩ : ByteArray)).size + t124.size) = False := eq_false (Nat.not_lt.2 c59)
                          try have c59b4 : (9223372036854775807 < 3 + (Utf8.encode (wrap32 ((rd_T43 l1 x12_1).f0))).size + 1 + t124.size) = False := eq_false (by have h_ := c59; (repeat rw [ByteArray.size_append] at h_); exact Nat.not_lt.2 h_)
                          by_cases c60 : ((((⟨#[58, 58, 123]⟩ : ByteArray) ++ (Utf8.encode (wrap32 ((rd_T43 l1 x12_1).f0)))) ++ (⟨#[35]⟩ : ByteArray)) ++ t124).size + 1 ≤ 9223372036854775807
                          · rw [if_pos c60] at H
                            have c60b0 := eq_true c60
                            have c60b1 : decide (((((⟨#[58, 58, 123]⟩ : ByteArray) ++ (Utf8.encode (wrap32 ((rd_T43 l1 x12_1).f0)))) ++ (⟨#[35]⟩ : ByteArray)) ++ t124).size + 1 ≤ 9223372036854775807) = true := decide_eq_true c60
                            try have c60b2 : (9223372036854775807 < ((((⟨#[58, 58, 123]⟩ : ByteArray) ++ (Utf8.encode (wrap32 ((rd_T43 l1 x12_1).f0)))) ++ (⟨#[35]⟩ : ByteArray)) ++ t124).size + 1) = False := eq_false (Nat.not_lt.2 c60)
                            try have c60b4 : (9223372036854775807 < 3 + (Utf8.encode (wrap32 ((rd_T43 l1 x12_1).f0))).size + 1 + t124.size + 1) = False := eq_false (by have h_ := c60; (repeat rw [ByteArray.size_append] at h_); exact Nat.not_lt.2 h_)
                            by_cases c61 : x5_1.size + (((((⟨#[58, 58, 123]⟩ : ByteArray) ++ (Utf8.encode (wrap32 ((rd_T43 l1 x12_1).f0)))) ++ (⟨#[35]⟩ : ByteArray)) ++ t124) ++ (⟨#[125]⟩ : ByteArray)).size ≤ 9223372036854775807
                            · rw [if_pos c61] at H
                              have c61b0 := eq_true c61
                              have c61b1 : decide (x5_1.size + (((((⟨#[58, 58, 123]⟩ : ByteArray) ++ (Utf8.encode (wrap32 ((rd_T43 l1 x12_1).f0)))) ++ (⟨#[35]⟩ : ByteArray)) ++ t124) ++ (⟨#[125]⟩ : ByteArray)).size ≤ 9223372036854775807) = true := decide_eq_true c61
                              try have c61b2 : (9223372036854775807 < x5_1.size + (((((⟨#[58, 58, 123]⟩ : ByteArray) ++ (Utf8.encode (wrap32 ((rd_T43 l1 x12_1).f0)))) ++ (⟨#[35]⟩ : ByteArray)) ++ t124) ++ (⟨#[125]⟩ : ByteArray)).size) = False := eq_false (Nat.not_lt.2 c61)
                              try have c61b4 : (9223372036854775807 < x5_1.size + (3 + (Utf8.encode (wrap32 ((rd_T43 l1 x12_1).f0))).size + 1 + t124.size + 1)) = False := eq_false (by have h_ := c61; (repeat rw [ByteArray.size_append] at h_); exact Nat.not_lt.2 h_)
                              have H' := Aside0.mk H
                              clear H
                              have p118 : 0 ≤ (x12_1 : Int) := of_decide_eq_true (by first | (with_reducible assumption) | assumption)
                              have q118 : x12_1 < (l1.length : Int) := of_decide_eq_true (by first | (with_reducible assumption) | assumption)
                              obtain ⟨ad118, e118, hx118_0, hx118_1, hx118_2⟩ := at_T43 HR1.out x12_1 p118 q118
                              cases e118
                              replace hx118_0 := (HB.out.cell (World.block_lt_of_cell? w _ hx118_0)).trans hx118_0
                              replace hx118_1 := (HB.out.cell (World.block_lt_of_cell? w _ hx118_1)).trans hx118_1
                              replace hx118_2 := (HB.out.cell (World.block_lt_of_cell? w _ hx118_2)).trans hx118_2
                              replace p118 := eq_true p118
                              replace q118 := eq_true q118
                              go_wp2_with (first | (go_at_call 15; refine (idCut_at _ _ _ _ _ _ (by assumption) (by assumption)).mono ?_; rintro e w_ ⟨rfl, rfl⟩) | ((with_reducible refine gate_dst (N := 7) rfl ?_); refine box_event ?hg (N := 7) ?hd (cs := #[.int .u8 0, .string (⟨#[]⟩ : ByteArray), .int .u64 0]) (t := 43) ?hr ?_; (case hd => rfl); (case hg => rfl); (case hr => first | (go_simp; done) | (go_simp; rfl)); intro gb119 hg w62 hbox hb; have n0_ := Aside0.mk (below_step (by repeat (first | (with_reducible first | exact HB.out | apply below_alloc | apply pw_below_drewN | apply below_drew1) | exact HB.out)) hb); have n1_ := Aside0.mk (hbox); have n2_ := Aside0.mk ((by rw [hg]; exact (below_size (by repeat (first | (with_reducible first | exact HB.out | apply below_alloc | apply pw_below_drewN | apply below_drew1) | exact HB.out))) : w.heap.size ≤ gb119)); have n3_ := Aside0.mk ((by rw [hg]; exact (below_size (by repeat (first | (with_reducible first | exact HB.out | apply below_alloc | apply pw_below_drewN | apply below_drew1) | exact HB.out))) : w.heap.size ≤ gb119)); clear HB; have HB := n0_; have BK119 := n1_; have GW119 := n2_; have GE119 := n3_; clear n0_ n1_ n2_ n3_; clear hb hbox hg; have hcz63_0 : w62.cell? ⟨gb119, 0, none⟩ = some (.int .u8 0) := (blk_cell BK119.out 0).trans rfl; have hcz63_1 : w62.cell? ⟨gb119, 1, none⟩ = some (.string (⟨#[]⟩ : ByteArray)) := (blk_cell BK119.out 1).trans rfl; have hcz63_2 : w62.cell? ⟨gb119, 2, none⟩ = some (.int .u64 0) := (blk_cell BK119.out 2).trans rfl; have hfz63_0 := blk_frozen BK119.out 0; have hfz63_1 := blk_frozen BK119.out 1; have hfz63_2 := blk_frozen BK119.out 2) | ((with_reducible refine gate_callee (f := 36) rfl ?_); refine goesL_ (some 48) rfl rfl Tryz.func36 (by kernel_rfl) rfl #[.int .u64 ((rd_T43 l1 x12_1).f2), .int .i64 10] rfl (by (try simp only [List.map_toArray, List.map_cons, List.map_nil]); first | done | rfl | (simp only [List.length_drop, List.length_take]; rfl)) ?_; (with_reducible refine (strconv_FormatUint.calls ((rd_T43 l1 x12_1).f2) 10 t124 _ (show DoorIs _ from ?side1) A58.out).mono ?_); (case side1 => exact Stays.below hT_ (by first | (repeat (first | (with_reducible first | exact HB.out | apply below_alloc | apply pw_below_drewN | apply below_drew1 | refine below_set ?_ GE119.out) | exact HB.out)) | (repeat (first | exact Below.refl _ _ | apply below_drew1 | apply pw_below_drewN)))); rintro e w64 ⟨rfl, hb⟩; refine ⟨_, rfl, ?_⟩; have n0_ := Aside0.mk (blk_below (g := gb119) (o := .cells #[.int .u8 ((rd_T43 l1 x12_1).f0), .string ((rd_T43 l1 x12_1).f1), .int .u64 ((rd_T43 l1 x12_1).f2)] 43 (0, 0)) (by (with_reducible repeat (first | refine blk_drewN ?_ _ | refine blk_drew ?_ | refine blk_alloc ?_ _)); refine blk_put (cs := #[.int .u8 ((rd_T43 l1 x12_1).f0), .string ((rd_T43 l1 x12_1).f1), .int .u64 0]) ?_ 2 _ rfl; (with_reducible repeat (first | refine blk_drewN ?_ _ | refine blk_drew ?_ | refine blk_alloc ?_ _)); refine blk_put (cs := #[.int .u8 ((rd_T43 l1 x12_1).f0), .string (⟨#[]⟩ : ByteArray), .int .u64 0]) ?_ 1 _ rfl; (with_reducible repeat (first | refine blk_drewN ?_ _ | refine blk_drew ?_ | refine blk_alloc ?_ _)); refine blk_put (cs := #[.int .u8 0, .string (⟨#[]⟩ : ByteArray), .int .u64 0]) ?_ 0 _ rfl; (with_reducible repeat (first | refine blk_drewN ?_ _ | refine blk_drew ?_ | refine blk_alloc ?_ _)); exact BK119.out) hb); have n1_ := Aside0.mk (below_step (by repeat (first | (with_reducible first | exact HB.out | apply below_alloc | apply pw_below_drewN | apply below_drew1 | refine below_set ?_ GE119.out) | exact HB.out)) hb); clear BK119; clear HB; have BK119 := n0_; have HB := n1_; clear n0_ n1_; (try clear hb); (try clear hb2); (try clear hk); (try clear hi)))
                              go_roundg k1
                              case measure => have := HK1.out; omega
                              case rel => exact ⟨(x5_1 ++ (((((⟨#[58, 58, 123]⟩ : ByteArray) ++ (Utf8.encode (wrap32 ((rd_T43 l1 x12_1).f0)))) ++ (⟨#[35]⟩ : ByteArray)) ++ t124) ++ (⟨#[125]⟩ : ByteArray))), (wrap64 (x12_1 + 1)), (by first | rfl | (simp; done) | (simp [*]; done)), (by first | rfl | (simp; done) | (simp [*]; done)), H', ⟨by have := HK1.out; omega⟩, ⟨by repeat (first | (with_reducible first | exact HB.out | apply below_alloc | apply pw_below_drewN | apply below_drew1 | refine below_set ?_ GE119.out) | exact HB.out)⟩⟩
                            · rw [if_neg c61] at H
                              exact absurd H (by simp)
                          · rw [if_neg c60] at H
                            exact absurd H (by simp)
                        · rw [if_neg c59] at H
                          exact absurd H (by simp)
                      · rw [if_neg c57] at H
                        exact absurd H (by simp)
                    · rw [if_neg c56] at H
                      exact absurd H (by simp)
                  · rw [if_neg c55] at H
                    have c55b0 : (((rd_T43 l1 x12_1).f1).toList == ([] : List UInt8)) = false := beq_eq_false_iff_ne.mpr c55
                    have c55b1 : (((rd_T43 l1 x12_1).f1).toList != ([] : List UInt8)) = true := bne_iff_ne.mpr c55
                    by_cases c65 : 1 + ((rd_T43 l1 x12_1).f1).size ≤ 9223372036854775807
                    · rw [if_pos c65] at H
                      have c65b0 := eq_true c65
                      have c65b1 : decide (1 + ((rd_T43 l1 x12_1).f1).size ≤ 9223372036854775807) = true := decide_eq_true c65
                      try have c65b2 : (9223372036854775807 < 1 + ((rd_T43 l1 x12_1).f1).size) = False := eq_false (Nat.not_lt.2 c65)
                      by_cases c66 : (Utf8.encode (wrap32 ((rd_T43 l1 x12_1).f0))).size + ((⟨#[58]⟩ : ByteArray) ++ ((rd_T43 l1 x12_1).f1)).size ≤ 9223372036854775807
                      · rw [if_pos c66] at H
                        have c66b0 := eq_true c66
                        have c66b1 : decide ((Utf8.encode (wrap32 ((rd_T43 l1 x12_1).f0))).size + ((⟨#[58]⟩ : ByteArray) ++ ((rd_T43 l1 x12_1).f1)).size ≤ 9223372036854775807) = true := decide_eq_true c66
                        try have c66b2 : (9223372036854775807 < (Utf8.encode (wrap32 ((rd_T43 l1 x12_1).f0))).size + ((⟨#[58]⟩ : ByteArray) ++ ((rd_T43 l1 x12_1).f1)).size) = False := eq_false (Nat.not_lt.2 c66)
                        try have c66b4 : (9223372036854775807 < (Utf8.encode (wrap32 ((rd_T43 l1 x12_1).f0))).size + (1 + ((rd_T43 l1 x12_1).f1).size)) = False := eq_false (by have h_ := c66; (repeat rw [ByteArray.size_append] at h_); exact Nat.not_lt.2 h_)
                        by_cases c67 : 3 + ((Utf8.encode (wrap32 ((rd_T43 l1 x12_1).f0))) ++ ((⟨#[58]⟩ : ByteArray) ++ ((rd_T43 l1 x12_1).f1))).size ≤ 9223372036854775807
                        · rw [if_pos c67] at H
                          have c67b0 := eq_true c67
                          have c67b1 : decide (3 + ((Utf8.encode (wrap32 ((rd_T43 l1 x12_1).f0))) ++ ((⟨#[58]⟩ : ByteArray) ++ ((rd_T43 l1 x12_1).f1))).size ≤ 9223372036854775807) = true := decide_eq_true c67
                          try have c67b2 : (9223372036854775807 < 3 + ((Utf8.encode (wrap32 ((rd_T43 l1 x12_1).f0))) ++ ((⟨#[58]⟩ : ByteArray) ++ ((rd_T43 l1 x12_1).f1))).size) = False := eq_false (Nat.not_lt.2 c67)
                          try have c67b4 : (9223372036854775807 < 3 + ((Utf8.encode (wrap32 ((rd_T43 l1 x12_1).f0))).size + (1 + ((rd_T43 l1 x12_1).f1).size))) = False := eq_false (by have h_ := c67; (repeat rw [ByteArray.size_append] at h_); exact Nat.not_lt.2 h_)
                          by_cases c68 : ((⟨#[58, 58, 123]⟩ : ByteArray) ++ ((Utf8.encode (wrap32 ((rd_T43 l1 x12_1).f0))) ++ ((⟨#[58]⟩ : ByteArray) ++ ((rd_T43 l1 x12_1).f1)))).size + 1 ≤ 9223372036854775807
                          · rw [if_pos c68] at H
                            have c68b0 := eq_true c68
                            have c68b1 : decide (((⟨#[58, 58, 123]⟩ : ByteArray) ++ ((Utf8.encode (wrap32 ((rd_T43 l1 x12_1).f0))) ++ ((⟨#[58]⟩ : ByteArray) ++ ((rd_T43 l1 x12_1).f1)))).size + 1 ≤ 9223372036854775807) = true := decide_eq_true c68
                            try have c68b2 : (9223372036854775807 < ((⟨#[58, 58, 123]⟩ : ByteArray) ++ ((Utf8.encode (wrap32 ((rd_T43 l1 x12_1).f0))) ++ ((⟨#[58]⟩ : ByteArray) ++ ((rd_T43 l1 x12_1).f1)))).size + 1) = False := eq_false (Nat.not_lt.2 c68)
                            try have c68b4 : (9223372036854775807 < 3 + ((Utf8.encode (wrap32 ((rd_T43 l1 x12_1).f0))).size + (1 + ((rd_T43 l1 x12_1).f1).size)) + 1) = False := eq_false (by have h_ := c68; (repeat rw [ByteArray.size_append] at h_); exact Nat.not_lt.2 h_)
                            replace H := Option.bind_eq_some_iff.mp H
                            obtain ⟨t125, A690, H⟩ := H
                            replace H : (if (((⟨#[58, 58, 123]⟩ : ByteArray) ++ ((Utf8.encode (wrap32 ((rd_T43 l1 x12_1).f0))) ++ ((⟨#[58]⟩ : ByteArray) ++ ((rd_T43 l1 x12_1).f1)))) ++ (⟨#[35]⟩ : ByteArray)).size + t125.size ≤ 9223372036854775807 then (if ((((⟨#[58, 58, 123]⟩ : ByteArray) ++ ((Utf8.encode (wrap32 ((rd_T43 l1 x12_1).f0))) ++ ((⟨#[58]⟩ : ByteArray) ++ ((rd_T43 l1 x12_1).f1)))) ++ (⟨#[35]⟩ : ByteArray)) ++ t125).size + 1 ≤ 9223372036854775807 then (if x5_1.size + (((((⟨#[58, 58, 123]⟩ : ByteArray) ++ ((Utf8.encode (wrap32 ((rd_T43 l1 x12_1).f0))) ++ ((⟨#[58]⟩ : ByteArray) ++ ((rd_T43 l1 x12_1).f1)))) ++ (⟨#[35]⟩ : ByteArray)) ++ t125) ++ (⟨#[125]⟩ : ByteArray)).size ≤ 9223372036854775807 then (spec_IdText.l0 k1 (x5_1 ++ (((((⟨#[58, 58, 123]⟩ : ByteArray) ++ ((Utf8.encode (wrap32 ((rd_T43 l1 x12_1).f0))) ++ ((⟨#[58]⟩ : ByteArray) ++ ((rd_T43 l1 x12_1).f1)))) ++ (⟨#[35]⟩ : ByteArray)) ++ t125) ++ (⟨#[125]⟩ : ByteArray))) l1 (l1.length : Int) (wrap64 (x12_1 + 1))) else (none)) else (none)) else (none)) = some r := H
                            have A69 := Aside0.mk A690
                            clear A690
                            by_cases c70 : (((⟨#[58, 58, 123]⟩ : ByteArray) ++ ((Utf8.encode (wrap32 ((rd_T43 l1 x12_1).f0))) ++ ((⟨#[58]⟩ : ByteArray) ++ ((rd_T43 l1 x12_1).f1)))) ++ (⟨#[35]⟩ : ByteArray)).size + t125.size ≤ 9223372036854775807
                            · rw [if_pos c70] at H
                              have c70b0 := eq_true c70
                              have c70b1 : decide ((((⟨#[58, 58, 123]⟩ : ByteArray) ++ ((Utf8.encode (wrap32 ((rd_T43 l1 x12_1).f0))) ++ ((⟨#[58]⟩ : ByteArray) ++ ((rd_T43 l1 x12_1).f1)))) ++ (⟨#[35]⟩ : ByteArray)).size + t125.size ≤ 9223372036854775807) = true := decide_eq_true c70
                              try have c70b2 : (9223372036854775807 < (((⟨#[58, 58, 123]⟩ : ByteArray) ++ ((Utf8.encode (wrap32 ((rd_T43 l1 x12_1).f0))) ++ ((⟨#[58]⟩ : ByteArray) ++ ((rd_T43 l1 x12_1).f1)))) ++ (⟨#[35]⟩ : ByteArray)).size + t125.size) = False := eq_false (Nat.not_lt.2 c70)
                              try have c70b4 : (9223372036854775807 < 3 + ((Utf8.encode (wrap32 ((rd_T43 l1 x12_1).f0))).size + (1 + ((rd_T43 l1 x12_1).f1).size)) + 1 + t125.size) = False := eq_false (by have h_ := c70; (repeat rw [ByteArray.size_append] at h_); exact Nat.not_lt.2 h_)
                              by_cases c71 : ((((⟨#[58, 58, 123]⟩ : ByteArray) ++ ((Utf8.encode (wrap32 ((rd_T43 l1 x12_1).f0))) ++ ((⟨#[58]⟩ : ByteArray) ++ ((rd_T43 l1 x12_1).f1)))) ++ (⟨#[35]⟩ : ByteArray)) ++ t125).size + 1 ≤ 9223372036854775807
                              · rw [if_pos c71] at H
                                have c71b0 := eq_true c71
                                have c71b1 : decide (((((⟨#[58, 58, 123]⟩ : ByteArray) ++ ((Utf8.encode (wrap32 ((rd_T43 l1 x12_1).f0))) ++ ((⟨#[58]⟩ : ByteArray) ++ ((rd_T43 l1 x12_1).f1)))) ++ (⟨#[35]⟩ : ByteArray)) ++ t125).size + 1 ≤ 9223372036854775807) = true := decide_eq_true c71
                                try have c71b2 : (9223372036854775807 < ((((⟨#[58, 58, 123]⟩ : ByteArray) ++ ((Utf8.encode (wrap32 ((rd_T43 l1 x12_1).f0))) ++ ((⟨#[58]⟩ : ByteArray) ++ ((rd_T43 l1 x12_1).f1)))) ++ (⟨#[35]⟩ : ByteArray)) ++ t125).size + 1) = False := eq_false (Nat.not_lt.2 c71)
                                try have c71b4 : (9223372036854775807 < 3 + ((Utf8.encode (wrap32 ((rd_T43 l1 x12_1).f0))).size + (1 + ((rd_T43 l1 x12_1).f1).size)) + 1 + t125.size + 1) = False := eq_false (by have h_ := c71; (repeat rw [ByteArray.size_append] at h_); exact Nat.not_lt.2 h_)
                                by_cases c72 : x5_1.size + (((((⟨#[58, 58, 123]⟩ : ByteArray) ++ ((Utf8.encode (wrap32 ((rd_T43 l1 x12_1).f0))) ++ ((⟨#[58]⟩ : ByteArray) ++ ((rd_T43 l1 x12_1).f1)))) ++ (⟨#[35]⟩ : ByteArray)) ++ t125) ++ (⟨#[125]⟩ : ByteArray)).size ≤ 9223372036854775807
                                · rw [if_pos c72] at H
                                  have c72b0 := eq_true c72
                                  have c72b1 : decide (x5_1.size + (((((⟨#[58, 58, 123]⟩ : ByteArray) ++ ((Utf8.encode (wrap32 ((rd_T43 l1 x12_1).f0))) ++ ((⟨#[58]⟩ : ByteArray) ++ ((rd_T43 l1 x12_1).f1)))) ++ (⟨#[35]⟩ : ByteArray)) ++ t125) ++ (⟨#[125]⟩ : ByteArray)).size ≤ 9223372036854775807) = true := decide_eq_true c72
                                  try have c72b2 : (9223372036854775807 < x5_1.size + (((((⟨#[58, 58, 123]⟩ : ByteArray) ++ ((Utf8.encode (wrap32 ((rd_T43 l1 x12_1).f0))) ++ ((⟨#[58]⟩ : ByteArray) ++ ((rd_T43 l1 x12_1).f1)))) ++ (⟨#[35]⟩ : ByteArray)) ++ t125) ++ (⟨#[125]⟩ : ByteArray)).size) = False := eq_false (Nat.not_lt.2 c72)
                                  try have c72b4 : (9223372036854775807 < x5_1.size + (3 + ((Utf8.encode (wrap32 ((rd_T43 l1 x12_1).f0))).size + (1 + ((rd_T43 l1 x12_1).f1).size)) + 1 + t125.size + 1)) = False := eq_false (by have h_ := c72; (repeat rw [ByteArray.size_append] at h_); exact Nat.not_lt.2 h_)
                                  have H' := Aside0.mk H
                                  clear H
                                  have p118 : 0 ≤ (x12_1 : Int) := of_decide_eq_true (by first | (with_reducible assumption) | assumption)
                                  have q118 : x12_1 < (l1.length : Int) := of_decide_eq_true (by first | (with_reducible assumption) | assumption)
                                  obtain ⟨ad118, e118, hx118_0, hx118_1, hx118_2⟩ := at_T43 HR1.out x12_1 p118 q118
                                  cases e118
                                  replace hx118_0 := (HB.out.cell (World.block_lt_of_cell? w _ hx118_0)).trans hx118_0
                                  replace hx118_1 := (HB.out.cell (World.block_lt_of_cell? w _ hx118_1)).trans hx118_1
                                  replace hx118_2 := (HB.out.cell (World.block_lt_of_cell? w _ hx118_2)).trans hx118_2
                                  replace p118 := eq_true p118
                                  replace q118 := eq_true q118
                                  go_wp2_with (first | (go_at_call 15; refine (idCut_at _ _ _ _ _ _ (by assumption) (by assumption)).mono ?_; rintro e w_ ⟨rfl, rfl⟩) | ((with_reducible refine gate_dst (N := 7) rfl ?_); refine box_event ?hg (N := 7) ?hd (cs := #[.int .u8 0, .string (⟨#[]⟩ : ByteArray), .int .u64 0]) (t := 43) ?hr ?_; (case hd => rfl); (case hg => rfl); (case hr => first | (go_simp; done) | (go_simp; rfl)); intro gb119 hg w73 hbox hb; have n0_ := Aside0.mk (below_step (by repeat (first | (with_reducible first | exact HB.out | apply below_alloc | apply pw_below_drewN | apply below_drew1) | exact HB.out)) hb); have n1_ := Aside0.mk (hbox); have n2_ := Aside0.mk ((by rw [hg]; exact (below_size (by repeat (first | (with_reducible first | exact HB.out | apply below_alloc | apply pw_below_drewN | apply below_drew1) | exact HB.out))) : w.heap.size ≤ gb119)); have n3_ := Aside0.mk ((by rw [hg]; exact (below_size (by repeat (first | (with_reducible first | exact HB.out | apply below_alloc | apply pw_below_drewN | apply below_drew1) | exact HB.out))) : w.heap.size ≤ gb119)); clear HB; have HB := n0_; have BK119 := n1_; have GW119 := n2_; have GE119 := n3_; clear n0_ n1_ n2_ n3_; clear hb hbox hg; have hcz74_0 : w73.cell? ⟨gb119, 0, none⟩ = some (.int .u8 0) := (blk_cell BK119.out 0).trans rfl; have hcz74_1 : w73.cell? ⟨gb119, 1, none⟩ = some (.string (⟨#[]⟩ : ByteArray)) := (blk_cell BK119.out 1).trans rfl; have hcz74_2 : w73.cell? ⟨gb119, 2, none⟩ = some (.int .u64 0) := (blk_cell BK119.out 2).trans rfl; have hfz74_0 := blk_frozen BK119.out 0; have hfz74_1 := blk_frozen BK119.out 1; have hfz74_2 := blk_frozen BK119.out 2) | ((with_reducible refine gate_callee (f := 36) rfl ?_); refine goesL_ (some 48) rfl rfl Tryz.func36 (by kernel_rfl) rfl #[.int .u64 ((rd_T43 l1 x12_1).f2), .int .i64 10] rfl (by (try simp only [List.map_toArray, List.map_cons, List.map_nil]); first | done | rfl | (simp only [List.length_drop, List.length_take]; rfl)) ?_; (with_reducible refine (strconv_FormatUint.calls ((rd_T43 l1 x12_1).f2) 10 t125 _ (show DoorIs _ from ?side1) A69.out).mono ?_); (case side1 => exact Stays.below hT_ (by first | (repeat (first | (with_reducible first | exact HB.out | apply below_alloc | apply pw_below_drewN | apply below_drew1 | refine below_set ?_ GE119.out) | exact HB.out)) | (repeat (first | exact Below.refl _ _ | apply below_drew1 | apply pw_below_drewN)))); rintro e w75 ⟨rfl, hb⟩; refine ⟨_, rfl, ?_⟩; have n0_ := Aside0.mk (blk_below (g := gb119) (o := .cells #[.int .u8 ((rd_T43 l1 x12_1).f0), .string ((rd_T43 l1 x12_1).f1), .int .u64 ((rd_T43 l1 x12_1).f2)] 43 (0, 0)) (by (with_reducible repeat (first | refine blk_drewN ?_ _ | refine blk_drew ?_ | refine blk_alloc ?_ _)); refine blk_put (cs := #[.int .u8 ((rd_T43 l1 x12_1).f0), .string ((rd_T43 l1 x12_1).f1), .int .u64 0]) ?_ 2 _ rfl; (with_reducible repeat (first | refine blk_drewN ?_ _ | refine blk_drew ?_ | refine blk_alloc ?_ _)); refine blk_put (cs := #[.int .u8 ((rd_T43 l1 x12_1).f0), .string (⟨#[]⟩ : ByteArray), .int .u64 0]) ?_ 1 _ rfl; (with_reducible repeat (first | refine blk_drewN ?_ _ | refine blk_drew ?_ | refine blk_alloc ?_ _)); refine blk_put (cs := #[.int .u8 0, .string (⟨#[]⟩ : ByteArray), .int .u64 0]) ?_ 0 _ rfl; (with_reducible repeat (first | refine blk_drewN ?_ _ | refine blk_drew ?_ | refine blk_alloc ?_ _)); exact BK119.out) hb); have n1_ := Aside0.mk (below_step (by repeat (first | (with_reducible first | exact HB.out | apply below_alloc | apply pw_below_drewN | apply below_drew1 | refine below_set ?_ GE119.out) | exact HB.out)) hb); clear BK119; clear HB; have BK119 := n0_; have HB := n1_; clear n0_ n1_; (try clear hb); (try clear hb2); (try clear hk); (try clear hi)))
                                  go_roundg k1
                                  case measure => have := HK1.out; omega
                                  case rel => exact ⟨(x5_1 ++ (((((⟨#[58, 58, 123]⟩ : ByteArray) ++ ((Utf8.encode (wrap32 ((rd_T43 l1 x12_1).f0))) ++ ((⟨#[58]⟩ : ByteArray) ++ ((rd_T43 l1 x12_1).f1)))) ++ (⟨#[35]⟩ : ByteArray)) ++ t125) ++ (⟨#[125]⟩ : ByteArray))), (wrap64 (x12_1 + 1)), (by first | rfl | (simp; done) | (simp [*]; done)), (by first | rfl | (simp; done) | (simp [*]; done)), H', ⟨by have := HK1.out; omega⟩, ⟨by repeat (first | (with_reducible first | exact HB.out | apply below_alloc | apply pw_below_drewN | apply below_drew1 | refine below_set ?_ GE119.out) | exact HB.out)⟩⟩
                                · rw [if_neg c72] at H
                                  exact absurd H (by simp)
                              · rw [if_neg c71] at H
                                exact absurd H (by simp)
                            · rw [if_neg c70] at H
                              exact absurd H (by simp)
                          · rw [if_neg c68] at H
                            exact absurd H (by simp)
                        · rw [if_neg c67] at H
                          exact absurd H (by simp)
                      · rw [if_neg c66] at H
                        exact absurd H (by simp)
                    · rw [if_neg c65] at H
                      exact absurd H (by simp)
          · rw [if_neg c5] at H
            exact absurd H (by simp)
        · rw [if_neg c4] at H
          exact absurd H (by simp)
      · rw [if_neg c3] at H
        have c3b0 : decide (x12_1 < (l1.length : Int)) = false := decide_eq_false c3
        clear c3
        obtain rfl := Option.some.inj H
        go_wp2
        go_ret
        exact ⟨by first | rfl | (simp [errW_none, errW_some] <;> rfl) | (simp [*, errW_none, errW_some] <;> rfl), by repeat (first | (with_reducible first | exact HB.out | apply below_alloc | apply pw_below_drewN | apply below_drew1) | exact HB.out)⟩

/-! ### laws_idSpace: function 29 -/
def laws_idSpace.f (l0 : List Int) (a1 : Int) (a2 : Int) : Option (Int) := if (l0.length : Int) = 0 then (some ((a2 + 2) % 256)) else (if 0 ≤ (Int.tmod a1 (l0.length : Int)) then (if (Int.tmod a1 (l0.length : Int)) < (l0.length : Int) then (some ((a2 + (Int.tmod (rd l0 (Int.tmod a1 (l0.length : Int))) 26)) % 256)) else (none)) else (none))
set_option maxHeartbeats 8000000 in
set_option maxRecDepth 100000 in
theorem laws_idSpace.calls (A0 : Option Addr) (c0 : Nat) (l0 : List Int) (a1 : Int) (a2 : Int) (r : Int) (w : World) (hr0 : Kd.C (Kd.int .u8) w A0 l0.length l0) (hc0 : l0.length ≤ c0) (h : laws_idSpace.f l0 a1 a2 = some r) :
    Calls Tryz.prog 29 #[.slice A0 l0.length c0, .int .i64 a1, .int .u8 a2] w fun e w' => e = .returned (.int .u8 r) ∧ Drawn0 w w' := by
  have HR0 := Aside0.mk hr0
  have HC0 := Aside0.mk hc0
  clear hr0 hc0
  have H : (if (l0.length : Int) = 0 then (some ((a2 + 2) % 256)) else (if 0 ≤ (Int.tmod a1 (l0.length : Int)) then (if (Int.tmod a1 (l0.length : Int)) < (l0.length : Int) then (some ((a2 + (Int.tmod (rd l0 (Int.tmod a1 (l0.length : Int))) 26)) % 256)) else (none)) else (none))) = some r := h
  clear h
  by_cases c4 : (l0.length : Int) = 0
  · rw [if_pos c4] at H
    have c4b0 : ((l0.length : Int) == 0) = true := beq_iff_eq.mpr c4
    have c4b1 : ((l0.length : Int) != 0) = false := bne_eq_false_iff_eq.mpr c4
    clear c4
    obtain rfl := Option.some.inj H
    go_enter Tryz.func29, Tryz.ntmps29
    go_wp2
    go_ret
    exact ⟨by first | rfl | (simp; done) | (simp [*]; done), by repeat (first | exact Drawn0.refl _ | apply Drawn0.step)⟩
  · rw [if_neg c4] at H
    have c4b0 : ((l0.length : Int) == 0) = false := beq_eq_false_iff_ne.mpr c4
    have c4b1 : ((l0.length : Int) != 0) = true := bne_iff_ne.mpr c4
    have c4b2 : ¬ (l0 = []) := fun h_ => c4 (by rw [h_]; rfl)
    obtain ⟨ji5, hji5⟩ : ∃ j_ : Int, (Int.tmod a1 (l0.length : Int)) = j_ := ⟨_, rfl⟩
    replace H : (if 0 ≤ (ji5) then (if (ji5) < (l0.length : Int) then (some ((a2 + (Int.tmod (rd l0 (ji5)) 26)) % 256)) else (none)) else (none)) = some r := by first | (rw [hji5] at H; exact H) | (simp only [hji5] at H ⊢; exact H)
    by_cases c6 : 0 ≤ (ji5)
    · rw [if_pos c6] at H
      have c6b0 : decide (0 ≤ (ji5)) = true := decide_eq_true c6
      clear c6
      by_cases c7 : (ji5) < (l0.length : Int)
      · rw [if_pos c7] at H
        have c7b0 : decide ((ji5) < (l0.length : Int)) = true := decide_eq_true c7
        clear c7
        obtain rfl := Option.some.inj H
        have p126 : 0 ≤ ((ji5) : Int) := of_decide_eq_true (by first | (with_reducible assumption) | assumption)
        have q126 : (ji5) < (l0.length : Int) := of_decide_eq_true (by first | (with_reducible assumption) | assumption)
        obtain ⟨ad126, e126, hx126_0⟩ := Kd.at_int HR0.out (ji5) p126 q126
        cases e126
        replace p126 := eq_true p126
        replace q126 := eq_true q126
        go_enter Tryz.func29, Tryz.ntmps29
        go_wp2
        go_ret
        exact ⟨by first | rfl | (simp; done) | (simp only [← hji5] <;> (first | rfl | simp)) | (simp [*]; done), by repeat (first | exact Drawn0.refl _ | apply Drawn0.step)⟩
      · rw [if_neg c7] at H
        exact absurd H (by simp)
    · rw [if_neg c6] at H
      exact absurd H (by simp)

/-! ### laws_idAt: function 26 -/
def laws_idAt.f (a0 : Int) (a1 : Int) : Option (Int) := if a1 = 0 then (none) else (some (Int.tmod (wrap64 ((Int.tmod a0 a1) + a1)) a1))
set_option maxHeartbeats 8000000 in
set_option maxRecDepth 100000 in
theorem laws_idAt.calls (a0 : Int) (a1 : Int) (r : Int) (w : World) (h : laws_idAt.f a0 a1 = some r) :
    Calls Tryz.prog 26 #[.int .i64 a0, .int .i64 a1] w fun e w' => e = .returned (.int .i64 r) ∧ Drawn0 w w' := by
  have H : (if a1 = 0 then (none) else (some (Int.tmod (wrap64 ((Int.tmod a0 a1) + a1)) a1))) = some r := h
  clear h
  by_cases c3 : a1 = 0
  · rw [if_pos c3] at H
    exact absurd H (by simp)
  · rw [if_neg c3] at H
    have c3b0 : (a1 == 0) = false := beq_eq_false_iff_ne.mpr c3
    have c3b1 : (a1 != 0) = true := bne_iff_ne.mpr c3
    obtain rfl := Option.some.inj H
    go_enter Tryz.func26, Tryz.ntmps26
    go_wp2
    go_ret
    exact ⟨by first | rfl | (simp; done) | (simp [*]; done), by repeat (first | exact Drawn0.refl _ | apply Drawn0.step)⟩

/-! ### laws_idDis: function 30 -/
def laws_idDis.f (l0 : List Int) (a1 : Int) : Option (Int) := if (l0.length : Int) = 0 then (some 0) else (if 0 ≤ (Int.tmod a1 (l0.length : Int)) then (if (Int.tmod a1 (l0.length : Int)) < (l0.length : Int) then ((laws_idAt.f (rd l0 (Int.tmod a1 (l0.length : Int))) 1099511627776).bind fun t128 => (some (IntKind.u64.wrap (t128)))) else (none)) else (none))
set_option maxHeartbeats 8000000 in
set_option maxRecDepth 100000 in
theorem laws_idDis.calls (A0 : Option Addr) (c0 : Nat) (l0 : List Int) (a1 : Int) (r : Int) (w : World) (hr0 : Kd.C (Kd.int .i64) w A0 l0.length l0) (hc0 : l0.length ≤ c0) (h : laws_idDis.f l0 a1 = some r) :
    Calls Tryz.prog 30 #[.slice A0 l0.length c0, .int .i64 a1] w fun e w' => e = .returned (.int .u64 r) ∧ Drawn0 w w' := by
  have HR0 := Aside0.mk hr0
  have HC0 := Aside0.mk hc0
  clear hr0 hc0
  have H : (if (l0.length : Int) = 0 then (some 0) else (if 0 ≤ (Int.tmod a1 (l0.length : Int)) then (if (Int.tmod a1 (l0.length : Int)) < (l0.length : Int) then ((laws_idAt.f (rd l0 (Int.tmod a1 (l0.length : Int))) 1099511627776).bind fun t128 => (some (IntKind.u64.wrap (t128)))) else (none)) else (none))) = some r := h
  clear h
  by_cases c3 : (l0.length : Int) = 0
  · rw [if_pos c3] at H
    have c3b0 : ((l0.length : Int) == 0) = true := beq_iff_eq.mpr c3
    have c3b1 : ((l0.length : Int) != 0) = false := bne_eq_false_iff_eq.mpr c3
    clear c3
    obtain rfl := Option.some.inj H
    go_enter Tryz.func30, Tryz.ntmps30
    go_wp2
    go_ret
    exact ⟨by first | rfl | (simp; done) | (simp [*]; done), by repeat (first | exact Drawn0.refl _ | apply Drawn0.step)⟩
  · rw [if_neg c3] at H
    have c3b0 : ((l0.length : Int) == 0) = false := beq_eq_false_iff_ne.mpr c3
    have c3b1 : ((l0.length : Int) != 0) = true := bne_iff_ne.mpr c3
    have c3b2 : ¬ (l0 = []) := fun h_ => c3 (by rw [h_]; rfl)
    obtain ⟨ji4, hji4⟩ : ∃ j_ : Int, (Int.tmod a1 (l0.length : Int)) = j_ := ⟨_, rfl⟩
    replace H : (if 0 ≤ (ji4) then (if (ji4) < (l0.length : Int) then ((laws_idAt.f (rd l0 (ji4)) 1099511627776).bind fun t128 => (some (IntKind.u64.wrap (t128)))) else (none)) else (none)) = some r := by first | (rw [hji4] at H; exact H) | (simp only [hji4] at H ⊢; exact H)
    by_cases c5 : 0 ≤ (ji4)
    · rw [if_pos c5] at H
      have c5b0 : decide (0 ≤ (ji4)) = true := decide_eq_true c5
      clear c5
      by_cases c6 : (ji4) < (l0.length : Int)
      · rw [if_pos c6] at H
        have c6b0 : decide ((ji4) < (l0.length : Int)) = true := decide_eq_true c6
        clear c6
        replace H := Option.bind_eq_some_iff.mp H
        obtain ⟨t128, A70, H⟩ := H
        replace H : (some (IntKind.u64.wrap (t128))) = some r := H
        have A7 := Aside0.mk A70
        clear A70
        obtain rfl := Option.some.inj H
        have p127 : 0 ≤ ((ji4) : Int) := of_decide_eq_true (by first | (with_reducible assumption) | assumption)
        have q127 : (ji4) < (l0.length : Int) := of_decide_eq_true (by first | (with_reducible assumption) | assumption)
        obtain ⟨ad127, e127, hx127_0⟩ := Kd.at_int HR0.out (ji4) p127 q127
        cases e127
        replace p127 := eq_true p127
        replace q127 := eq_true q127
        go_enter Tryz.func30, Tryz.ntmps30
        go_wp2_with (first | (go_at_call 15; refine (idCut_at _ _ _ _ _ _ (by assumption) (by assumption)).mono ?_; rintro e w_ ⟨rfl, rfl⟩) | ((with_reducible refine gate_callee (f := 26) rfl ?_); refine goesL_ (some 15) rfl rfl Tryz.func26 (by kernel_rfl) rfl #[.int .i64 (rd l0 (ji4)), .int .i64 1099511627776] rfl (by (try simp only [List.map_toArray, List.map_cons, List.map_nil]); first | done | (simp only [hji4]; rfl) | rfl | (simp only [List.length_drop, List.length_take]; rfl)) ?_; (with_reducible refine (laws_idAt.calls (rd l0 (ji4)) 1099511627776 t128 _ A7.out).mono ?_); rintro e w' ⟨rfl, ⟨nd, rfl⟩⟩; refine ⟨_, rfl, ?_⟩))
        go_ret
        exact ⟨by first | rfl | (simp; done) | (simp only [← hji4] <;> (first | rfl | simp)) | (simp [*]; done), by repeat (first | exact Drawn0.refl _ | apply Drawn0.step)⟩
      · rw [if_neg c6] at H
        exact absurd H (by simp)
    · rw [if_neg c5] at H
      exact absurd H (by simp)

/-! ### laws_idSpecial: function 25 -/
def laws_idSpecial.l0 : Nat → List Int → List Int → List (S43) → List (List Int) → Int → Int → Option ((List (S43)))
  | 0, _, _, _, _, _, _ => none
  | k + 1, x1, x2, x7, x12, x13, x14 => if x14 < x13 then (if 0 ≤ x14 then (if x14 < (x12.length : Int) then (if x14 < 100 then ((laws_idSpace.f x1 x14 65).bind fun t133 => ((laws_idDis.f x2 x14).bind fun t134 => (if ((rd_L1 x12 x14).length : Int) > 0 then (if 0 ≤ (mn ((rd_L1 x12 x14).length : Int) 1000) then (if (mn ((rd_L1 x12 x14).length : Int) 1000) ≤ ((rd_L1 x12 x14).length : Int) then ((spec_AnPlain.f k ((rd_L1 x12 x14).take ((mn ((rd_L1 x12 x14).length : Int) 1000) : Int).toNat)).bind fun t137 => (if x7.length < 4398046511104 then (laws_idSpecial.l0 k x1 x2 (x7 ++ [(⟨t133, t137, t134⟩ : S43)]) x12 x13 (wrap64 (x14 + 1))) else (none))) else (none)) else (none)) else (if x7.length < 4398046511104 then (laws_idSpecial.l0 k x1 x2 (x7 ++ [(⟨t133, (⟨#[]⟩ : ByteArray), t134⟩ : S43)]) x12 x13 (wrap64 (x14 + 1))) else (none))))) else (laws_idSpecial.l0 k x1 x2 x7 x12 x13 (wrap64 (x14 + 1)))) else (none)) else (none)) else (some x7)
def laws_idSpecial.f (k : Nat) (l0 : List (List Int)) (l1 : List Int) (l2 : List Int) : Option ((List (S43))) := laws_idSpecial.l0 k l1 l2 (([] : List (S43))) l0 (l0.length : Int) 0
theorem laws_idSpecial.mono_l : ∀ k, (∀ y0 y1 y2 y3 y4 y5, LeO (laws_idSpecial.l0 k y0 y1 y2 y3 y4 y5) (laws_idSpecial.l0 (k + 1) y0 y1 y2 y3 y4 y5))
  | 0 => fun _ _ _ _ _ _ r h => by simp [laws_idSpecial.l0] at h
  | k + 1 => by
    have ih0 := laws_idSpecial.mono_l k
    · intro y0 y1 y2 y3 y4 y5
      unfold laws_idSpecial.l0
      repeat' first
      | (with_reducible exact ih0 _ _ _ _ _ _)
      | (with_reducible exact spec_AnPlain.mono _ _)
      | (with_reducible exact LeO.refl _)
      | (with_reducible exact LeO.none _)
      | (with_reducible refine LeO.ite ?_ ?_)
      | (with_reducible refine LeO.bind ?_ (fun _ => ?_))
      | exact ih0 _ _ _ _ _ _
      | exact spec_AnPlain.mono _ _
      | exact LeO.none _
      | refine LeO.ite ?_ ?_
      | refine LeO.bind ?_ (fun _ => ?_)
theorem laws_idSpecial.mono : ∀ a0 a1 a2 k, LeO (laws_idSpecial.f k a0 a1 a2) (laws_idSpecial.f (k + 1) a0 a1 a2) := by
  intro a0 a1 a2 k
  have ih0 := laws_idSpecial.mono_l k
  unfold laws_idSpecial.f
  repeat' first
      | (with_reducible exact ih0 _ _ _ _ _ _)
      | (with_reducible exact spec_AnPlain.mono _ _)
      | (with_reducible exact LeO.refl _)
      | (with_reducible exact LeO.none _)
      | (with_reducible refine LeO.ite ?_ ?_)
      | (with_reducible refine LeO.bind ?_ (fun _ => ?_))
      | exact ih0 _ _ _ _ _ _
      | exact spec_AnPlain.mono _ _
      | exact LeO.none _
      | refine LeO.ite ?_ ?_
      | refine LeO.bind ?_ (fun _ => ?_)
set_option maxHeartbeats 8000000 in
set_option maxRecDepth 100000 in
theorem laws_idSpecial.calls (k : Nat) (A0 : Option Addr) (c0 : Nat) (l0 : List (List Int)) (A1 : Option Addr) (c1 : Nat) (l1 : List Int) (A2 : Option Addr) (c2 : Nat) (l2 : List Int) (r : List (S43)) (w : World) (hr0 : Kd.C (Kd.slice 5 (Kd.int .u8)) w A0 l0.length l0) (hc0 : l0.length ≤ c0) (hr1 : Kd.C (Kd.int .u8) w A1 l1.length l1) (hc1 : l1.length ≤ c1) (hr2 : Kd.C (Kd.int .i64) w A2 l2.length l2) (hc2 : l2.length ≤ c2) (h : laws_idSpecial.f k l0 l1 l2 = some r) :
    Calls Tryz.prog 25 #[.slice A0 l0.length c0, .slice A1 l1.length c1, .slice A2 l2.length c2] w fun e w' => ∃ v0_ : Value, e = .returned (v0_) ∧ Kd.R k43 43 w' w.heap.size (fun _ => True) v0_ r ∧ Below w.heap.size w w' := by
  have hu43 := Tryz.underlying43
  have HR0 := Aside0.mk hr0
  have HC0 := Aside0.mk hc0
  clear hr0 hc0
  have HR1 := Aside0.mk hr1
  have HC1 := Aside0.mk hc1
  clear hr1 hc1
  have HR2 := Aside0.mk hr2
  have HC2 := Aside0.mk hc2
  clear hr2 hc2
  have HB := Aside0.mk (Below.refl w.heap.size w)
  have H : (laws_idSpecial.l0 k l1 l2 (([] : List (S43))) l0 (l0.length : Int) 0) = some r := h
  clear h
  obtain ⟨y129, hy129⟩ : ∃ y_ : List (S43), y_ = (([] : List (S43))) := ⟨_, rfl⟩
  replace H : (laws_idSpecial.l0 k l1 l2 y129 l0 (l0.length : Int) 0) = some r := by first | (rw [hy129]; with_reducible exact H) | (have H2_ := (Option.bind_some _ _).symm.trans H; rw [hy129]; with_reducible exact H2_) | (have H2_ := (Option.bind_some _ _).symm.trans H; with_reducible exact H2_) | with_reducible exact H | (rw [hy129]; exact H) | exact H
  have Ny129 := Aside0.mk hy129
  clear hy129
  have H' := Aside0.mk H
  clear H
  go_enter Tryz.func25, Tryz.ntmps25
  go_wp2_with (first | (go_at_call 15; refine (idCut_at _ _ _ _ _ _ (by assumption) (by assumption)).mono ?_; rintro e w_ ⟨rfl, rfl⟩) | ((with_reducible refine gate_dst (N := 11) rfl ?_); refine Kd.R_lit k43 _ 43 ?hg (N := 11) ?hd (xs := ([] : List (S43))) (inner := []) (ok := fun _ => True) (okp := fun _ => True) ?hr ?hp (fun _ hk => hk) trivial (Below.refl _ _) (Nat.le_refl _) (by simp) ?_; (case hd => rfl); (case hg => rfl); (case hr => first | (go_simp; done) | (go_simp; rfl)); (case hp => exact (Reps.none _ _)); intro v130 w4 ho5 hb hg_ hnew_; clear hg_ hnew_; (first | rw [← Ny129.out] at ho5 | (simp only [Int.reduceToNat] at ho5; rw [← Ny129.out] at ho5)); have n0_ := Aside0.mk (Kd.R_lower ho5 (below_size (by repeat (first | (with_reducible first | exact HB.out | apply below_alloc | apply pw_below_drewN | apply below_drew1) | exact HB.out)))); have n1_ := Aside0.mk (below_step (by repeat (first | (with_reducible first | exact HB.out | apply below_alloc | apply pw_below_drewN | apply below_drew1) | exact HB.out)) hb); clear HB; have HO131 := n0_; have HB := n1_; clear n0_ n1_; clear hb ho5))
  go_loopg [7, 14] k (fun kq v7 v14 w' => ∃ (x7_1 : List (S43)) (x14_1 : Int), v14 = .int .i64 x14_1 ∧ Aside0 (laws_idSpecial.l0 kq l1 l2 x7_1 l0 (l0.length : Int) x14_1 = some r) ∧ Aside0 (kq ≤ k) ∧ Aside0 (Kd.R k43 43 w' w.heap.size (fun _ => True) v7 x7_1) ∧ Aside0 (Below w.heap.size w w'))
  case atStart => exact ⟨(y129), (0), (by first | rfl | (simp; done) | (simp [*]; done)), H', ⟨Nat.le_refl _⟩, ⟨by (with_reducible repeat (first | apply Kd.R_alloc | apply Kd.R_drewN | apply Kd.R_drew)); exact HO131.out⟩, ⟨by repeat (first | (with_reducible first | exact HB.out | apply below_alloc | apply pw_below_drewN | apply below_drew1) | exact HB.out)⟩⟩
  case round =>
    clear H'
    try clear c1
    try clear c2
    try clear p2
    obtain ⟨x7_1, x14_1, rfl, HA, HK1, HO_7, HB⟩ := hrel
    cases gk with
    | zero => exact absurd HA.out (by simp [laws_idSpecial.l0])
    | succ k1 =>
      have H := HA.out
      clear HA
      simp only [laws_idSpecial.l0] at H
      by_cases c6 : x14_1 < (l0.length : Int)
      · rw [if_pos c6] at H
        have c6b0 : decide (x14_1 < (l0.length : Int)) = true := decide_eq_true c6
        clear c6
        by_cases c7 : 0 ≤ x14_1
        · rw [if_pos c7] at H
          have c7b0 : decide (0 ≤ x14_1) = true := decide_eq_true c7
          clear c7
          by_cases c8 : x14_1 < (l0.length : Int)
          · rw [if_pos c8] at H
            have c8b0 : decide (x14_1 < (l0.length : Int)) = true := decide_eq_true c8
            clear c8
            by_cases c9 : x14_1 < 100
            · rw [if_pos c9] at H
              have c9b0 : decide (x14_1 < 100) = true := decide_eq_true c9
              clear c9
              replace H := Option.bind_eq_some_iff.mp H
              obtain ⟨t133, A100, H⟩ := H
              replace H : ((laws_idDis.f l2 x14_1).bind fun t134 => (if ((rd_L1 l0 x14_1).length : Int) > 0 then (if 0 ≤ (mn ((rd_L1 l0 x14_1).length : Int) 1000) then (if (mn ((rd_L1 l0 x14_1).length : Int) 1000) ≤ ((rd_L1 l0 x14_1).length : Int) then ((spec_AnPlain.f k1 ((rd_L1 l0 x14_1).take ((mn ((rd_L1 l0 x14_1).length : Int) 1000) : Int).toNat)).bind fun t137 => (if x7_1.length < 4398046511104 then (laws_idSpecial.l0 k1 l1 l2 (x7_1 ++ [(⟨t133, t137, t134⟩ : S43)]) l0 (l0.length : Int) (wrap64 (x14_1 + 1))) else (none))) else (none)) else (none)) else (if x7_1.length < 4398046511104 then (laws_idSpecial.l0 k1 l1 l2 (x7_1 ++ [(⟨t133, (⟨#[]⟩ : ByteArray), t134⟩ : S43)]) l0 (l0.length : Int) (wrap64 (x14_1 + 1))) else (none)))) = some r := H
              have A10 := Aside0.mk A100
              clear A100
              replace H := Option.bind_eq_some_iff.mp H
              obtain ⟨t134, A110, H⟩ := H
              replace H : (if ((rd_L1 l0 x14_1).length : Int) > 0 then (if 0 ≤ (mn ((rd_L1 l0 x14_1).length : Int) 1000) then (if (mn ((rd_L1 l0 x14_1).length : Int) 1000) ≤ ((rd_L1 l0 x14_1).length : Int) then ((spec_AnPlain.f k1 ((rd_L1 l0 x14_1).take ((mn ((rd_L1 l0 x14_1).length : Int) 1000) : Int).toNat)).bind fun t137 => (if x7_1.length < 4398046511104 then (laws_idSpecial.l0 k1 l1 l2 (x7_1 ++ [(⟨t133, t137, t134⟩ : S43)]) l0 (l0.length : Int) (wrap64 (x14_1 + 1))) else (none))) else (none)) else (none)) else (if x7_1.length < 4398046511104 then (laws_idSpecial.l0 k1 l1 l2 (x7_1 ++ [(⟨t133, (⟨#[]⟩ : ByteArray), t134⟩ : S43)]) l0 (l0.length : Int) (wrap64 (x14_1 + 1))) else (none))) = some r := H
              have A11 := Aside0.mk A110
              clear A110
              by_cases c12 : ((rd_L1 l0 x14_1).length : Int) > 0
              · rw [if_pos c12] at H
                have c12b0 : decide (0 < ((rd_L1 l0 x14_1).length : Int)) = true := decide_eq_true c12
                have c12b1 : decide (0 < (rd_L1 l0 x14_1).length) = true := decide_eq_true (by omega)
                clear c12
                obtain ⟨ji13, hji13⟩ : ∃ j_ : Int, (mn ((rd_L1 l0 x14_1).length : Int) 1000) = j_ := ⟨_, rfl⟩
                replace H : (if 0 ≤ (ji13) then (if (ji13) ≤ ((rd_L1 l0 x14_1).length : Int) then ((spec_AnPlain.f k1 ((rd_L1 l0 x14_1).take ((ji13) : Int).toNat)).bind fun t137 => (if x7_1.length < 4398046511104 then (laws_idSpecial.l0 k1 l1 l2 (x7_1 ++ [(⟨t133, t137, t134⟩ : S43)]) l0 (l0.length : Int) (wrap64 (x14_1 + 1))) else (none))) else (none)) else (none)) = some r := by first | (rw [hji13] at H; exact H) | (simp only [hji13] at H ⊢; exact H)
                (try rw [hji13] at A10)
                (try rw [hji13] at A11)
                have hji13_ : (if 1000 < ((rd_L1 l0 x14_1).length : Int) then 1000 else ((rd_L1 l0 x14_1).length : Int)) = ji13 := hji13
                by_cases c14 : 0 ≤ (ji13)
                · rw [if_pos c14] at H
                  have c14b0 := eq_true c14
                  have c14b1 : decide (0 ≤ (ji13)) = true := decide_eq_true c14
                  clear c14
                  by_cases c15 : (ji13) ≤ ((rd_L1 l0 x14_1).length : Int)
                  · rw [if_pos c15] at H
                    have c15b0 := eq_true c15
                    have c15b1 : decide ((ji13) ≤ ((rd_L1 l0 x14_1).length : Int)) = true := decide_eq_true c15
                    clear c15
                    replace H := Option.bind_eq_some_iff.mp H
                    obtain ⟨t137, A160, H⟩ := H
                    replace H : (if x7_1.length < 4398046511104 then (laws_idSpecial.l0 k1 l1 l2 (x7_1 ++ [(⟨t133, t137, t134⟩ : S43)]) l0 (l0.length : Int) (wrap64 (x14_1 + 1))) else (none)) = some r := H
                    have A16 := Aside0.mk A160
                    clear A160
                    by_cases c17 : x7_1.length < 4398046511104
                    · rw [if_pos c17] at H
                      have LMc17 := Aside0.mk c17
                      clear c17
                      obtain ⟨y138, hy138⟩ : ∃ y_ : List (S43), y_ = (x7_1 ++ [(⟨t133, t137, t134⟩ : S43)]) := ⟨_, rfl⟩
                      replace H : (laws_idSpecial.l0 k1 l1 l2 y138 l0 (l0.length : Int) (wrap64 (x14_1 + 1))) = some r := by first | (rw [hy138]; with_reducible exact H) | (have H2_ := (Option.bind_some _ _).symm.trans H; rw [hy138]; with_reducible exact H2_) | (have H2_ := (Option.bind_some _ _).symm.trans H; with_reducible exact H2_) | with_reducible exact H | (rw [hy138]; exact H) | exact H
                      have Ny138 := Aside0.mk hy138
                      clear hy138
                      have H' := Aside0.mk H
                      clear H
                      have p132 : 0 ≤ (x14_1 : Int) := of_decide_eq_true (by first | (with_reducible assumption) | assumption)
                      have q132 : x14_1 < (l0.length : Int) := of_decide_eq_true (by first | (with_reducible assumption) | assumption)
                      obtain ⟨ad132, A132_0, c132_0, e132, hx132_0, hl132_0, hi132_0⟩ := at_L1 HR0.out x14_1 p132 q132
                      cases e132
                      replace hx132_0 := (HB.out.cell (World.block_lt_of_cell? w _ hx132_0)).trans hx132_0
                      have HR132_0 := Aside0.mk hi132_0
                      have HC132_0 := Aside0.mk hl132_0
                      clear hi132_0 hl132_0
                      replace p132 := eq_true p132
                      replace q132 := eq_true q132
                      go_wp2_with (first | (go_at_call 15; refine (idCut_at _ _ _ _ _ _ (by assumption) (by assumption)).mono ?_; rintro e w_ ⟨rfl, rfl⟩) | ((with_reducible refine gate_callee (f := 29) rfl ?_); refine goesL_ (some 23) rfl rfl Tryz.func29 (by kernel_rfl) rfl #[.slice A1 l1.length c1, .int .i64 x14_1, .int .u8 65] rfl (by (try simp only [List.map_toArray, List.map_cons, List.map_nil]); first | done | rfl | (simp only [List.length_drop, List.length_take]; rfl)) ?_; (with_reducible refine (laws_idSpace.calls _ _ l1 x14_1 65 t133 _ ?side1 ?side2 A10.out).mono ?_); (case side1 => repeat (first | exact (Kd.C_below HR1.out HB.out) | (with_reducible refine Kd.C_alloc ?_ _) | (with_reducible refine Kd.C_drewN ?_ _) | (with_reducible refine Kd.C_drew ?_))); (case side2 => exact HC1.out); rintro e w' ⟨rfl, ⟨nd, rfl⟩⟩; refine ⟨_, rfl, ?_⟩; (try (rw [drewN_self wr]; generalize hq_ : World.drewN wr _ = wr; have n0_ : Aside0 (Kd.R k43 43 wr w.heap.size (fun _ => True) u7 x7_1) := ⟨by rw [← hq_]; exact (by (with_reducible repeat (first | apply Kd.R_alloc | apply Kd.R_drewN | apply Kd.R_drew)); exact HO_7.out)⟩; have n1_ : Aside0 (Below w.heap.size w wr) := ⟨by rw [← hq_]; exact (by repeat (first | (with_reducible first | exact HB.out | apply below_alloc | apply pw_below_drewN | apply below_drew1) | exact HB.out))⟩; clear HO_7 HB hq_; have HO_7 := n0_; have HB := n1_; clear n0_ n1_))) | ((with_reducible refine gate_callee (f := 30) rfl ?_); refine goesL_ (some 26) rfl rfl Tryz.func30 (by kernel_rfl) rfl #[.slice A2 l2.length c2, .int .i64 x14_1] rfl (by (try simp only [List.map_toArray, List.map_cons, List.map_nil]); first | done | rfl | (simp only [List.length_drop, List.length_take]; rfl)) ?_; (with_reducible refine (laws_idDis.calls _ _ l2 x14_1 t134 _ ?side1 ?side2 A11.out).mono ?_); (case side1 => repeat (first | exact (Kd.C_below HR2.out HB.out) | (with_reducible refine Kd.C_alloc ?_ _) | (with_reducible refine Kd.C_drewN ?_ _) | (with_reducible refine Kd.C_drew ?_))); (case side2 => exact HC2.out); rintro e w' ⟨rfl, ⟨nd, rfl⟩⟩; refine ⟨_, rfl, ?_⟩; (try (rw [drewN_self wr]; generalize hq_ : World.drewN wr _ = wr; have n0_ : Aside0 (Kd.R k43 43 wr w.heap.size (fun _ => True) u7 x7_1) := ⟨by rw [← hq_]; exact (by (with_reducible repeat (first | apply Kd.R_alloc | apply Kd.R_drewN | apply Kd.R_drew)); exact HO_7.out)⟩; have n1_ : Aside0 (Below w.heap.size w wr) := ⟨by rw [← hq_]; exact (by repeat (first | (with_reducible first | exact HB.out | apply below_alloc | apply pw_below_drewN | apply below_drew1) | exact HB.out))⟩; clear HO_7 HB hq_; have HO_7 := n0_; have HB := n1_; clear n0_ n1_))) | ((with_reducible refine gate_dst (N := 10) rfl ?_); refine box_event ?hg (N := 10) ?hd (cs := #[.int .u8 0, .string (⟨#[]⟩ : ByteArray), .int .u64 0]) (t := 43) ?hr ?_; (case hd => rfl); (case hg => rfl); (case hr => first | (go_simp; done) | (go_simp; rfl)); intro gb135 hg w18 hbox hb; have n0_ := Aside0.mk (Kd.R_below (Kd.R_elderB (by (with_reducible repeat (first | apply Kd.R_alloc | apply Kd.R_drewN | apply Kd.R_drew)); exact HO_7.out) gb135 (Nat.le_of_eq hg.symm)) hb); have n1_ := Aside0.mk (below_step (by repeat (first | (with_reducible first | exact HB.out | apply below_alloc | apply pw_below_drewN | apply below_drew1) | exact HB.out)) hb); have n2_ := Aside0.mk (hbox); have n3_ := Aside0.mk ((by rw [hg]; exact (below_size (by repeat (first | (with_reducible first | exact HB.out | apply below_alloc | apply pw_below_drewN | apply below_drew1) | exact HB.out))) : w.heap.size ≤ gb135)); have n4_ := Aside0.mk ((by rw [hg]; exact (below_size (by repeat (first | (with_reducible first | exact HB.out | apply below_alloc | apply pw_below_drewN | apply below_drew1) | exact HB.out))) : w.heap.size ≤ gb135)); clear HO_7; clear HB; have HO_7 := n0_; have HB := n1_; have BK135 := n2_; have GW135 := n3_; have GE135 := n4_; clear n0_ n1_ n2_ n3_ n4_; clear hb hbox hg; have hcz19_0 : w18.cell? ⟨gb135, 0, none⟩ = some (.int .u8 0) := (blk_cell BK135.out 0).trans rfl; have hcz19_1 : w18.cell? ⟨gb135, 1, none⟩ = some (.string (⟨#[]⟩ : ByteArray)) := (blk_cell BK135.out 1).trans rfl; have hcz19_2 : w18.cell? ⟨gb135, 2, none⟩ = some (.int .u64 0) := (blk_cell BK135.out 2).trans rfl; have hfz19_0 := blk_frozen BK135.out 0; have hfz19_1 := blk_frozen BK135.out 1; have hfz19_2 := blk_frozen BK135.out 2; obtain ⟨i020, hi020, _, hsz20, _⟩ := info_parts info5; obtain ⟨hcut20, hA20, hC20⟩ := print_take_of (P := Tryz.prog) (Value.int .u8) 0 22 5 .i64 Tryz.underlying22 hi020 hsz20 A132_0 c132_0 (rd_L1 l0 x14_1) (ji13) (of_decide_eq_true (by first | (with_reducible assumption) | assumption)) (of_decide_eq_true (by first | (with_reducible assumption) | assumption)) HC132_0.out; have HR136 := Aside0.mk (Kd.C_of_reads (h1 := fun _ => rfl) (hA20 _ (Kd.reads_of_C HR132_0.out))); have HC136 := Aside0.mk hC20; clear hA20 hC20 hi020 hsz20) | ((with_reducible refine gate_callee (f := 14) rfl ?_); refine goesL_ (some 33) rfl rfl Tryz.func14 (by kernel_rfl) rfl #[.slice A132_0 ((rd_L1 l0 x14_1).take ((ji13) : Int).toNat).length c132_0] rfl (by (try simp only [List.map_toArray, List.map_cons, List.map_nil]); first | done | (rw [show ((rd_L1 l0 x14_1).take ((ji13) : Int).toNat).length = (ji13).toNat from (by rw [List.length_take]; have h_ : ((ji13) : Int) ≤ ((rd_L1 l0 x14_1).length : Int) := of_decide_eq_true (by first | (with_reducible assumption) | assumption); omega)] <;> rfl) | (simp only [hji13]; rfl) | rfl | (simp only [List.length_drop, List.length_take]; rfl)) ?_; (with_reducible refine (spec_AnPlain.calls k1 _ _ ((rd_L1 l0 x14_1).take ((ji13) : Int).toNat) t137 _ ?side1 ?side2 A16.out).mono ?_); (case side1 => exact Kd.C_below HR136.out (by repeat (first | (with_reducible first | exact HB.out | apply below_alloc | apply pw_below_drewN | apply below_drew1 | refine below_set ?_ GE135.out) | exact HB.out))); (case side2 => exact HC136.out); rintro e w21 ⟨rfl, hb⟩; refine ⟨_, rfl, ?_⟩; have n0_ := Aside0.mk (Kd.R_below (by (with_reducible repeat (first | apply Kd.R_alloc | apply Kd.R_drewN | apply Kd.R_drew)); exact (Kd.R_mono (Kd.R_far (p := ⟨gb135, 2, none⟩) (Kd.R_far (p := ⟨gb135, 1, none⟩) (Kd.R_far (p := ⟨gb135, 0, none⟩) (Kd.R_mono HO_7.out (fun k_ hk => (⟨hk, hk.2⟩ : _ ∧ k_ ≠ gb135))) (fun _ hk => hk.2) (.int .u8 t133)) (fun _ hk => hk.2) (.string (⟨#[]⟩ : ByteArray))) (fun _ hk => hk.2) (.int .u64 t134)) (fun _ h_ => h_.1))) hb); have n1_ := Aside0.mk (blk_below (g := gb135) (o := .cells #[.int .u8 t133, .string (⟨#[]⟩ : ByteArray), .int .u64 t134] 43 (0, 0)) (by (with_reducible repeat (first | refine blk_drewN ?_ _ | refine blk_drew ?_ | refine blk_alloc ?_ _)); refine blk_put (cs := #[.int .u8 t133, .string (⟨#[]⟩ : ByteArray), .int .u64 0]) ?_ 2 _ rfl; (with_reducible repeat (first | refine blk_drewN ?_ _ | refine blk_drew ?_ | refine blk_alloc ?_ _)); refine blk_put (cs := #[.int .u8 t133, .string (⟨#[]⟩ : ByteArray), .int .u64 0]) ?_ 1 _ rfl; (with_reducible repeat (first | refine blk_drewN ?_ _ | refine blk_drew ?_ | refine blk_alloc ?_ _)); refine blk_put (cs := #[.int .u8 0, .string (⟨#[]⟩ : ByteArray), .int .u64 0]) ?_ 0 _ rfl; (with_reducible repeat (first | refine blk_drewN ?_ _ | refine blk_drew ?_ | refine blk_alloc ?_ _)); exact BK135.out) hb); have n2_ := Aside0.mk (below_step (by repeat (first | (with_reducible first | exact HB.out | apply below_alloc | apply pw_below_drewN | apply below_drew1 | refine below_set ?_ GE135.out) | exact HB.out)) hb); clear HO_7; clear BK135; clear HB; have HO_7 := n0_; have BK135 := n1_; have HB := n2_; clear n0_ n1_ n2_; (try clear hb); (try clear hb2); (try clear hk); (try clear hi); have hcz22_0 : w21.cell? ⟨gb135, 0, none⟩ = some (.int .u8 t133) := (blk_cell BK135.out 0).trans rfl; have hcz22_1 : w21.cell? ⟨gb135, 1, none⟩ = some (.string (⟨#[]⟩ : ByteArray)) := (blk_cell BK135.out 1).trans rfl; have hcz22_2 : w21.cell? ⟨gb135, 2, none⟩ = some (.int .u64 t134) := (blk_cell BK135.out 2).trans rfl; have hfz22_0 := blk_frozen BK135.out 0; have hfz22_1 := blk_frozen BK135.out 1; have hfz22_2 := blk_frozen BK135.out 2) | ((with_reducible refine gate_builtin (b := .append) (xs := #[.tmp 35, .tmp 37]) rfl ?_); at_builtin; refine Kd.R_append k43 (w0 := w) w.heap.size rfl (.tmp 35) (.tmp 37) 27 43 (.agg #[(.int .u8 0), (.string ⟨#[]⟩), (.int .u64 0)]) 32 rfl Tryz.underlying27 info43 rfl (by decide) (by omega) u7 x7_1 (⟨t133, t137, t134⟩ : S43) [.int .u8 t133, .string t137, .int .u64 t134] (fun k_ => k_ ≠ gb135) (fun _ => False) rfl (by first | (go_simp; done) | (go_simp; rfl)) ?aP (fun _ hk => hk.elim) ?aF ?aO ?aB ?aS ?aL ?_; (case aP => exact k43_mkM _ _ _ (⟨t133, t137, t134⟩ : S43)); (case aB => exact (by repeat (first | (with_reducible first | exact HB.out | apply below_alloc | apply pw_below_drewN | apply below_drew1 | refine below_set ?_ GE135.out) | exact HB.out))); (case aF => exact (fun k_ hk => Kd.freshB (g := gb135) (o := .cells #[.int .u8 t133, .string t137, .int .u64 t134] 43 (0, 0)) (by (with_reducible repeat (first | refine blk_drewN ?_ _ | refine blk_drew ?_ | refine blk_alloc ?_ _)); refine blk_put (cs := #[.int .u8 t133, .string (⟨#[]⟩ : ByteArray), .int .u64 t134]) ?_ 1 _ rfl; (with_reducible repeat (first | refine blk_drewN ?_ _ | refine blk_drew ?_ | refine blk_alloc ?_ _)); exact BK135.out) k_ hk)); (case aO => exact (by (with_reducible repeat (first | apply Kd.R_alloc | apply Kd.R_drewN | apply Kd.R_drew)); exact Kd.R_mono (Kd.R_far (p := ⟨gb135, 1, none⟩) (Kd.R_mono HO_7.out (fun k_ hk => (⟨hk, hk.2⟩ : _ ∧ k_ ≠ gb135))) (fun _ hk => hk.2) (.string t137)) (fun _ hk => hk.1.2))); (case aS => exact (below_size (by repeat (first | (with_reducible first | exact HB.out | apply below_alloc | apply pw_below_drewN | apply below_drew1 | refine below_set ?_ GE135.out) | exact HB.out)))); (case aL => have := LMc17.out; omega); intro v139 w23 ho hb hg hat; rw [← Ny138.out] at ho; have n0_ := Aside0.mk (blk_grown (g := gb135) (o := .cells #[.int .u8 t133, .string t137, .int .u64 t134] 43 (0, 0)) (by (with_reducible repeat (first | refine blk_drewN ?_ _ | refine blk_drew ?_ | refine blk_alloc ?_ _)); refine blk_put (cs := #[.int .u8 t133, .string (⟨#[]⟩ : ByteArray), .int .u64 t134]) ?_ 1 _ rfl; (with_reducible repeat (first | refine blk_drewN ?_ _ | refine blk_drew ?_ | refine blk_alloc ?_ _)); exact BK135.out) hg (Kd.R_away HO_7.out (fun _ hk => hk.2))); have n1_ := Aside0.mk (hb); have n2_ := Aside0.mk (ho); clear BK135; clear HB; clear HO_7; have BK135 := n0_; have HB := n1_; have HO140 := n2_; clear n0_ n1_ n2_; clear ho hb hg hat))
                      go_roundg k1
                      case measure => have := HK1.out; omega
                      case rel => exact ⟨(y138), (wrap64 (x14_1 + 1)), (by first | rfl | (simp; done) | (simp [*]; done)), H', ⟨by have := HK1.out; omega⟩, ⟨by (with_reducible repeat (first | apply Kd.R_alloc | apply Kd.R_drewN | apply Kd.R_drew)); exact Kd.R_mono HO140.out (fun _ hk => trivial)⟩, ⟨by repeat (first | (with_reducible first | exact HB.out | apply below_alloc | apply pw_below_drewN | apply below_drew1 | refine below_set ?_ GE135.out) | exact HB.out)⟩⟩
                    · rw [if_neg c17] at H
                      exact absurd H (by simp)
                  · rw [if_neg c15] at H
                    exact absurd H (by simp)
                · rw [if_neg c14] at H
                  exact absurd H (by simp)
              · rw [if_neg c12] at H
                have c12b0 : decide (0 < ((rd_L1 l0 x14_1).length : Int)) = false := decide_eq_false c12
                have c12b1 : decide (0 < (rd_L1 l0 x14_1).length) = false := decide_eq_false (by omega)
                clear c12
                by_cases c24 : x7_1.length < 4398046511104
                · rw [if_pos c24] at H
                  have LMc24 := Aside0.mk c24
                  clear c24
                  obtain ⟨y141, hy141⟩ : ∃ y_ : List (S43), y_ = (x7_1 ++ [(⟨t133, (⟨#[]⟩ : ByteArray), t134⟩ : S43)]) := ⟨_, rfl⟩
                  replace H : (laws_idSpecial.l0 k1 l1 l2 y141 l0 (l0.length : Int) (wrap64 (x14_1 + 1))) = some r := by first | (rw [hy141]; with_reducible exact H) | (have H2_ := (Option.bind_some _ _).symm.trans H; rw [hy141]; with_reducible exact H2_) | (have H2_ := (Option.bind_some _ _).symm.trans H; with_reducible exact H2_) | with_reducible exact H | (rw [hy141]; exact H) | exact H
                  have Ny141 := Aside0.mk hy141
                  clear hy141
                  have H' := Aside0.mk H
                  clear H
                  have p132 : 0 ≤ (x14_1 : Int) := of_decide_eq_true (by first | (with_reducible assumption) | assumption)
                  have q132 : x14_1 < (l0.length : Int) := of_decide_eq_true (by first | (with_reducible assumption) | assumption)
                  obtain ⟨ad132, A132_0, c132_0, e132, hx132_0, hl132_0, hi132_0⟩ := at_L1 HR0.out x14_1 p132 q132
                  cases e132
                  replace hx132_0 := (HB.out.cell (World.block_lt_of_cell? w _ hx132_0)).trans hx132_0
                  have HR132_0 := Aside0.mk hi132_0
                  have HC132_0 := Aside0.mk hl132_0
                  clear hi132_0 hl132_0
                  replace p132 := eq_true p132
                  replace q132 := eq_true q132
                  go_wp2_with (first | (go_at_call 15; refine (idCut_at _ _ _ _ _ _ (by assumption) (by assumption)).mono ?_; rintro e w_ ⟨rfl, rfl⟩) | ((with_reducible refine gate_callee (f := 29) rfl ?_); refine goesL_ (some 23) rfl rfl Tryz.func29 (by kernel_rfl) rfl #[.slice A1 l1.length c1, .int .i64 x14_1, .int .u8 65] rfl (by (try simp only [List.map_toArray, List.map_cons, List.map_nil]); first | done | rfl | (simp only [List.length_drop, List.length_take]; rfl)) ?_; (with_reducible refine (laws_idSpace.calls _ _ l1 x14_1 65 t133 _ ?side1 ?side2 A10.out).mono ?_); (case side1 => repeat (first | exact (Kd.C_below HR1.out HB.out) | (with_reducible refine Kd.C_alloc ?_ _) | (with_reducible refine Kd.C_drewN ?_ _) | (with_reducible refine Kd.C_drew ?_))); (case side2 => exact HC1.out); rintro e w' ⟨rfl, ⟨nd, rfl⟩⟩; refine ⟨_, rfl, ?_⟩; (try (rw [drewN_self wr]; generalize hq_ : World.drewN wr _ = wr; have n0_ : Aside0 (Kd.R k43 43 wr w.heap.size (fun _ => True) u7 x7_1) := ⟨by rw [← hq_]; exact (by (with_reducible repeat (first | apply Kd.R_alloc | apply Kd.R_drewN | apply Kd.R_drew)); exact HO_7.out)⟩; have n1_ : Aside0 (Below w.heap.size w wr) := ⟨by rw [← hq_]; exact (by repeat (first | (with_reducible first | exact HB.out | apply below_alloc | apply pw_below_drewN | apply below_drew1) | exact HB.out))⟩; clear HO_7 HB hq_; have HO_7 := n0_; have HB := n1_; clear n0_ n1_))) | ((with_reducible refine gate_callee (f := 30) rfl ?_); refine goesL_ (some 26) rfl rfl Tryz.func30 (by kernel_rfl) rfl #[.slice A2 l2.length c2, .int .i64 x14_1] rfl (by (try simp only [List.map_toArray, List.map_cons, List.map_nil]); first | done | rfl | (simp only [List.length_drop, List.length_take]; rfl)) ?_; (with_reducible refine (laws_idDis.calls _ _ l2 x14_1 t134 _ ?side1 ?side2 A11.out).mono ?_); (case side1 => repeat (first | exact (Kd.C_below HR2.out HB.out) | (with_reducible refine Kd.C_alloc ?_ _) | (with_reducible refine Kd.C_drewN ?_ _) | (with_reducible refine Kd.C_drew ?_))); (case side2 => exact HC2.out); rintro e w' ⟨rfl, ⟨nd, rfl⟩⟩; refine ⟨_, rfl, ?_⟩; (try (rw [drewN_self wr]; generalize hq_ : World.drewN wr _ = wr; have n0_ : Aside0 (Kd.R k43 43 wr w.heap.size (fun _ => True) u7 x7_1) := ⟨by rw [← hq_]; exact (by (with_reducible repeat (first | apply Kd.R_alloc | apply Kd.R_drewN | apply Kd.R_drew)); exact HO_7.out)⟩; have n1_ : Aside0 (Below w.heap.size w wr) := ⟨by rw [← hq_]; exact (by repeat (first | (with_reducible first | exact HB.out | apply below_alloc | apply pw_below_drewN | apply below_drew1) | exact HB.out))⟩; clear HO_7 HB hq_; have HO_7 := n0_; have HB := n1_; clear n0_ n1_))) | ((with_reducible refine gate_dst (N := 10) rfl ?_); refine box_event ?hg (N := 10) ?hd (cs := #[.int .u8 0, .string (⟨#[]⟩ : ByteArray), .int .u64 0]) (t := 43) ?hr ?_; (case hd => rfl); (case hg => rfl); (case hr => first | (go_simp; done) | (go_simp; rfl)); intro gb135 hg w25 hbox hb; have n0_ := Aside0.mk (Kd.R_below (Kd.R_elderB (by (with_reducible repeat (first | apply Kd.R_alloc | apply Kd.R_drewN | apply Kd.R_drew)); exact HO_7.out) gb135 (Nat.le_of_eq hg.symm)) hb); have n1_ := Aside0.mk (below_step (by repeat (first | (with_reducible first | exact HB.out | apply below_alloc | apply pw_below_drewN | apply below_drew1) | exact HB.out)) hb); have n2_ := Aside0.mk (hbox); have n3_ := Aside0.mk ((by rw [hg]; exact (below_size (by repeat (first | (with_reducible first | exact HB.out | apply below_alloc | apply pw_below_drewN | apply below_drew1) | exact HB.out))) : w.heap.size ≤ gb135)); have n4_ := Aside0.mk ((by rw [hg]; exact (below_size (by repeat (first | (with_reducible first | exact HB.out | apply below_alloc | apply pw_below_drewN | apply below_drew1) | exact HB.out))) : w.heap.size ≤ gb135)); clear HO_7; clear HB; have HO_7 := n0_; have HB := n1_; have BK135 := n2_; have GW135 := n3_; have GE135 := n4_; clear n0_ n1_ n2_ n3_ n4_; clear hb hbox hg; have hcz26_0 : w25.cell? ⟨gb135, 0, none⟩ = some (.int .u8 0) := (blk_cell BK135.out 0).trans rfl; have hcz26_1 : w25.cell? ⟨gb135, 1, none⟩ = some (.string (⟨#[]⟩ : ByteArray)) := (blk_cell BK135.out 1).trans rfl; have hcz26_2 : w25.cell? ⟨gb135, 2, none⟩ = some (.int .u64 0) := (blk_cell BK135.out 2).trans rfl; have hfz26_0 := blk_frozen BK135.out 0; have hfz26_1 := blk_frozen BK135.out 1; have hfz26_2 := blk_frozen BK135.out 2) | ((with_reducible refine gate_builtin (b := .append) (xs := #[.tmp 35, .tmp 37]) rfl ?_); at_builtin; refine Kd.R_append k43 (w0 := w) w.heap.size rfl (.tmp 35) (.tmp 37) 27 43 (.agg #[(.int .u8 0), (.string ⟨#[]⟩), (.int .u64 0)]) 32 rfl Tryz.underlying27 info43 rfl (by decide) (by omega) u7 x7_1 (⟨t133, (⟨#[]⟩ : ByteArray), t134⟩ : S43) [.int .u8 t133, .string (⟨#[]⟩ : ByteArray), .int .u64 t134] (fun k_ => k_ ≠ gb135) (fun _ => False) rfl (by first | (go_simp; done) | (go_simp; rfl)) ?aP (fun _ hk => hk.elim) ?aF ?aO ?aB ?aS ?aL ?_; (case aP => exact k43_mkM _ _ _ (⟨t133, (⟨#[]⟩ : ByteArray), t134⟩ : S43)); (case aB => exact (by repeat (first | (with_reducible first | exact HB.out | apply below_alloc | apply pw_below_drewN | apply below_drew1 | refine below_set ?_ GE135.out) | exact HB.out))); (case aF => exact (fun k_ hk => Kd.freshB (g := gb135) (o := .cells #[.int .u8 t133, .string (⟨#[]⟩ : ByteArray), .int .u64 t134] 43 (0, 0)) (by (with_reducible repeat (first | refine blk_drewN ?_ _ | refine blk_drew ?_ | refine blk_alloc ?_ _)); refine blk_put (cs := #[.int .u8 t133, .string (⟨#[]⟩ : ByteArray), .int .u64 0]) ?_ 2 _ rfl; (with_reducible repeat (first | refine blk_drewN ?_ _ | refine blk_drew ?_ | refine blk_alloc ?_ _)); refine blk_put (cs := #[.int .u8 t133, .string (⟨#[]⟩ : ByteArray), .int .u64 0]) ?_ 1 _ rfl; (with_reducible repeat (first | refine blk_drewN ?_ _ | refine blk_drew ?_ | refine blk_alloc ?_ _)); refine blk_put (cs := #[.int .u8 0, .string (⟨#[]⟩ : ByteArray), .int .u64 0]) ?_ 0 _ rfl; (with_reducible repeat (first | refine blk_drewN ?_ _ | refine blk_drew ?_ | refine blk_alloc ?_ _)); exact BK135.out) k_ hk)); (case aO => exact (by (with_reducible repeat (first | apply Kd.R_alloc | apply Kd.R_drewN | apply Kd.R_drew)); exact Kd.R_mono (Kd.R_far (p := ⟨gb135, 2, none⟩) (Kd.R_far (p := ⟨gb135, 1, none⟩) (Kd.R_far (p := ⟨gb135, 0, none⟩) (Kd.R_mono HO_7.out (fun k_ hk => (⟨hk, hk.2⟩ : _ ∧ k_ ≠ gb135))) (fun _ hk => hk.2) (.int .u8 t133)) (fun _ hk => hk.2) (.string (⟨#[]⟩ : ByteArray))) (fun _ hk => hk.2) (.int .u64 t134)) (fun _ hk => hk.1.2))); (case aS => exact (below_size (by repeat (first | (with_reducible first | exact HB.out | apply below_alloc | apply pw_below_drewN | apply below_drew1 | refine below_set ?_ GE135.out) | exact HB.out)))); (case aL => have := LMc24.out; omega); intro v142 w27 ho hb hg hat; rw [← Ny141.out] at ho; have n0_ := Aside0.mk (blk_grown (g := gb135) (o := .cells #[.int .u8 t133, .string (⟨#[]⟩ : ByteArray), .int .u64 t134] 43 (0, 0)) (by (with_reducible repeat (first | refine blk_drewN ?_ _ | refine blk_drew ?_ | refine blk_alloc ?_ _)); refine blk_put (cs := #[.int .u8 t133, .string (⟨#[]⟩ : ByteArray), .int .u64 0]) ?_ 2 _ rfl; (with_reducible repeat (first | refine blk_drewN ?_ _ | refine blk_drew ?_ | refine blk_alloc ?_ _)); refine blk_put (cs := #[.int .u8 t133, .string (⟨#[]⟩ : ByteArray), .int .u64 0]) ?_ 1 _ rfl; (with_reducible repeat (first | refine blk_drewN ?_ _ | refine blk_drew ?_ | refine blk_alloc ?_ _)); refine blk_put (cs := #[.int .u8 0, .string (⟨#[]⟩ : ByteArray), .int .u64 0]) ?_ 0 _ rfl; (with_reducible repeat (first | refine blk_drewN ?_ _ | refine blk_drew ?_ | refine blk_alloc ?_ _)); exact BK135.out) hg (Kd.R_away HO_7.out (fun _ hk => hk.2))); have n1_ := Aside0.mk (hb); have n2_ := Aside0.mk (ho); clear BK135; clear HB; clear HO_7; have BK135 := n0_; have HB := n1_; have HO143 := n2_; clear n0_ n1_ n2_; clear ho hb hg hat))
                  go_roundg k1
                  case measure => have := HK1.out; omega
                  case rel => exact ⟨(y141), (wrap64 (x14_1 + 1)), (by first | rfl | (simp; done) | (simp [*]; done)), H', ⟨by have := HK1.out; omega⟩, ⟨by (with_reducible repeat (first | apply Kd.R_alloc | apply Kd.R_drewN | apply Kd.R_drew)); exact Kd.R_mono HO143.out (fun _ hk => trivial)⟩, ⟨by repeat (first | (with_reducible first | exact HB.out | apply below_alloc | apply pw_below_drewN | apply below_drew1 | refine below_set ?_ GE135.out) | exact HB.out)⟩⟩
                · rw [if_neg c24] at H
                  exact absurd H (by simp)
            · rw [if_neg c9] at H
              have c9b0 : decide (x14_1 < 100) = false := decide_eq_false c9
              clear c9
              have H' := Aside0.mk H
              clear H
              have p132 : 0 ≤ (x14_1 : Int) := of_decide_eq_true (by first | (with_reducible assumption) | assumption)
              have q132 : x14_1 < (l0.length : Int) := of_decide_eq_true (by first | (with_reducible assumption) | assumption)
              obtain ⟨ad132, A132_0, c132_0, e132, hx132_0, hl132_0, hi132_0⟩ := at_L1 HR0.out x14_1 p132 q132
              cases e132
              replace hx132_0 := (HB.out.cell (World.block_lt_of_cell? w _ hx132_0)).trans hx132_0
              have HR132_0 := Aside0.mk hi132_0
              have HC132_0 := Aside0.mk hl132_0
              clear hi132_0 hl132_0
              replace p132 := eq_true p132
              replace q132 := eq_true q132
              go_wp2
              go_roundg k1
              case measure => have := HK1.out; omega
              case rel => exact ⟨(x7_1), (wrap64 (x14_1 + 1)), (by first | rfl | (simp; done) | (simp [*]; done)), H', ⟨by have := HK1.out; omega⟩, ⟨by (with_reducible repeat (first | apply Kd.R_alloc | apply Kd.R_drewN | apply Kd.R_drew)); exact HO_7.out⟩, ⟨by repeat (first | (with_reducible first | exact HB.out | apply below_alloc | apply pw_below_drewN | apply below_drew1) | exact HB.out)⟩⟩
          · rw [if_neg c8] at H
            exact absurd H (by simp)
        · rw [if_neg c7] at H
          exact absurd H (by simp)
      · rw [if_neg c6] at H
        have c6b0 : decide (x14_1 < (l0.length : Int)) = false := decide_eq_false c6
        clear c6
        obtain rfl := Option.some.inj H
        go_wp2
        go_ret
        exact ⟨_, by first | rfl | (simp [errW_none, errW_some] <;> rfl) | (simp [*, errW_none, errW_some] <;> rfl), by (with_reducible repeat (first | apply Kd.R_alloc | apply Kd.R_drewN | apply Kd.R_drew)); exact HO_7.out, by repeat (first | (with_reducible first | exact HB.out | apply below_alloc | apply pw_below_drewN | apply below_drew1) | exact HB.out)⟩

end Go.Proofs.YtdmkdclockmjbaaGreatDoor.PFnMaxLengthSpecial
