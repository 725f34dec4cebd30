/- Written by a program of this session (wip/tools/myprint.py) with the kit's print: contracts of the functions that one statement reaches; functions that are proved by hand are taken as printed. Conditions: none. -/
import Derived.Test.YtdmkdclockmjbaaDoorPFnRustBasicx0
namespace Go.Proofs.YtdmkdclockmjbaaDoor.PFnRustBasic
open Go.RowKit Go.Proofs.YtdmkdclockmjbaaDoorW.PrintWords Go.Proofs.YtdmkdclockmjbaaDoorW.PrintLast Go.Proofs.YtdmkdclockmjbaaDoorW.PrintMore
attribute [local go_sem] max2_int min2_int max_two min_two max_three min_three max_four min_four   -- for this text's walks alone
set_option linter.unusedVariables false
set_option linter.unusedSimpArgs false

/-! ### spec_RustBasicText: function 7 -/
def spec_RustBasicText.f (a0 : Int) : Option (ByteArray) := if a0 = 97 then (some (⟨#[105, 56]⟩ : ByteArray)) else (if a0 = 98 then (some (⟨#[98, 111, 111, 108]⟩ : ByteArray)) else (if a0 = 99 then (some (⟨#[99, 104, 97, 114]⟩ : ByteArray)) else (if a0 = 100 then (some (⟨#[102, 54, 52]⟩ : ByteArray)) else (if a0 = 101 then (some (⟨#[115, 116, 114]⟩ : ByteArray)) else (if a0 = 102 then (some (⟨#[102, 51, 50]⟩ : ByteArray)) else (if a0 = 104 then (some (⟨#[117, 56]⟩ : ByteArray)) else (if a0 = 105 then (some (⟨#[105, 115, 105, 122, 101]⟩ : ByteArray)) else (if a0 = 106 then (some (⟨#[117, 115, 105, 122, 101]⟩ : ByteArray)) else (if a0 = 108 then (some (⟨#[105, 51, 50]⟩ : ByteArray)) else (if a0 = 109 then (some (⟨#[117, 51, 50]⟩ : ByteArray)) else (if a0 = 110 then (some (⟨#[105, 49, 50, 56]⟩ : ByteArray)) else (if a0 = 111 then (some (⟨#[117, 49, 50, 56]⟩ : ByteArray)) else (if a0 = 115 then (some (⟨#[105, 49, 54]⟩ : ByteArray)) else (if a0 = 116 then (some (⟨#[117, 49, 54]⟩ : ByteArray)) else (if a0 = 117 then (some (⟨#[40, 41]⟩ : ByteArray)) else (if a0 = 118 then (some (⟨#[46, 46, 46]⟩ : ByteArray)) else (if a0 = 120 then (some (⟨#[105, 54, 52]⟩ : ByteArray)) else (if a0 = 121 then (some (⟨#[117, 54, 52]⟩ : ByteArray)) else (if a0 = 122 then (some (⟨#[33]⟩ : ByteArray)) else (if a0 = 112 then (some (⟨#[95]⟩ : ByteArray)) else (some (⟨#[]⟩ : ByteArray))))))))))))))))))))))
set_option maxHeartbeats 8000000 in
set_option maxRecDepth 100000 in
theorem spec_RustBasicText.calls (a0 : Int) (r : ByteArray) (w : World) (h : spec_RustBasicText.f a0 = some r) :
    Calls Tryd.prog 7 #[.int .u8 a0] w fun e w' => e = .returned (.string r) ∧ Drawn0 w w' := by
  have H : (if a0 = 97 then (some (⟨#[105, 56]⟩ : ByteArray)) else (if a0 = 98 then (some (⟨#[98, 111, 111, 108]⟩ : ByteArray)) else (if a0 = 99 then (some (⟨#[99, 104, 97, 114]⟩ : ByteArray)) else (if a0 = 100 then (some (⟨#[102, 54, 52]⟩ : ByteArray)) else (if a0 = 101 then (some (⟨#[115, 116, 114]⟩ : ByteArray)) else (if a0 = 102 then (some (⟨#[102, 51, 50]⟩ : ByteArray)) else (if a0 = 104 then (some (⟨#[117, 56]⟩ : ByteArray)) else (if a0 = 105 then (some (⟨#[105, 115, 105, 122, 101]⟩ : ByteArray)) else (if a0 = 106 then (some (⟨#[117, 115, 105, 122, 101]⟩ : ByteArray)) else (if a0 = 108 then (some (⟨#[105, 51, 50]⟩ : ByteArray)) else (if a0 = 109 then (some (⟨#[117, 51, 50]⟩ : ByteArray)) else (if a0 = 110 then (some (⟨#[105, 49, 50, 56]⟩ : ByteArray)) else (if a0 = 111 then (some (⟨#[117, 49, 50, 56]⟩ : ByteArray)) else (if a0 = 115 then (some (⟨#[105, 49, 54]⟩ : ByteArray)) else (if a0 = 116 then (some (⟨#[117, 49, 54]⟩ : ByteArray)) else (if a0 = 117 then (some (⟨#[40, 41]⟩ : ByteArray)) else (if a0 = 118 then (some (⟨#[46, 46, 46]⟩ : ByteArray)) else (if a0 = 120 then (some (⟨#[105, 54, 52]⟩ : ByteArray)) else (if a0 = 121 then (some (⟨#[117, 54, 52]⟩ : ByteArray)) else (if a0 = 122 then (some (⟨#[33]⟩ : ByteArray)) else (if a0 = 112 then (some (⟨#[95]⟩ : ByteArray)) else (some (⟨#[]⟩ : ByteArray))))))))))))))))))))))) = some r := h
  clear h
  by_cases c2 : a0 = 97
  · rw [if_pos c2] at H
    have c2b0 : (a0 == 97) = true := beq_iff_eq.mpr c2
    have c2b1 : (a0 != 97) = false := bne_eq_false_iff_eq.mpr c2
    clear c2
    obtain rfl := Option.some.inj H
    go_enter Tryd.func7, Tryd.ntmps7
    go_wp2
    go_ret
    exact ⟨by first | rfl | (simp; done) | (simp [*]; done), by repeat (first | exact Drawn0.refl _ | apply Drawn0.step)⟩
  · rw [if_neg c2] at H
    have c2b0 : (a0 == 97) = false := beq_eq_false_iff_ne.mpr c2
    have c2b1 : (a0 != 97) = true := bne_iff_ne.mpr c2
    by_cases c3 : a0 = 98
    · rw [if_pos c3] at H
      have c3b0 : (a0 == 98) = true := beq_iff_eq.mpr c3
      have c3b1 : (a0 != 98) = false := bne_eq_false_iff_eq.mpr c3
      clear c3
      obtain rfl := Option.some.inj H
      go_enter Tryd.func7, Tryd.ntmps7
      go_wp2
      go_ret
      exact ⟨by first | rfl | (simp; done) | (simp [*]; done), by repeat (first | exact Drawn0.refl _ | apply Drawn0.step)⟩
    · rw [if_neg c3] at H
      have c3b0 : (a0 == 98) = false := beq_eq_false_iff_ne.mpr c3
      have c3b1 : (a0 != 98) = true := bne_iff_ne.mpr c3
      by_cases c4 : a0 = 99
      · rw [if_pos c4] at H
        have c4b0 : (a0 == 99) = true := beq_iff_eq.mpr c4
        have c4b1 : (a0 != 99) = false := bne_eq_false_iff_eq.mpr c4
        clear c4
        obtain rfl := Option.some.inj H
        go_enter Tryd.func7, Tryd.ntmps7
        go_wp2
        go_ret
        exact ⟨by first | rfl | (simp; done) | (simp [*]; done), by repeat (first | exact Drawn0.refl _ | apply Drawn0.step)⟩
      · rw [if_neg c4] at H
        have c4b0 : (a0 == 99) = false := beq_eq_false_iff_ne.mpr c4
        have c4b1 : (a0 != 99) = true := bne_iff_ne.mpr c4
        by_cases c5 : a0 = 100
        · rw [if_pos c5] at H
          have c5b0 : (a0 == 100) = true := beq_iff_eq.mpr c5
          have c5b1 : (a0 != 100) = false := bne_eq_false_iff_eq.mpr c5
          clear c5
          obtain rfl := Option.some.inj H
          go_enter Tryd.func7, Tryd.ntmps7
          go_wp2
          go_ret
          exact ⟨by first | rfl | (simp; done) | (simp [*]; done), by repeat (first | exact Drawn0.refl _ | apply Drawn0.step)⟩
        · rw [if_neg c5] at H
          have c5b0 : (a0 == 100) = false := beq_eq_false_iff_ne.mpr c5
          have c5b1 : (a0 != 100) = true := bne_iff_ne.mpr c5
          by_cases c6 : a0 = 101
          · rw [if_pos c6] at H
            have c6b0 : (a0 == 101) = true := beq_iff_eq.mpr c6
            have c6b1 : (a0 != 101) = false := bne_eq_false_iff_eq.mpr c6
            clear c6
            obtain rfl := Option.some.inj H
            go_enter Tryd.func7, Tryd.ntmps7
            go_wp2
            go_ret
            exact ⟨by first | rfl | (simp; done) | (simp [*]; done), by repeat (first | exact Drawn0.refl _ | apply Drawn0.step)⟩
          · rw [if_neg c6] at H
            have c6b0 : (a0 == 101) = false := beq_eq_false_iff_ne.mpr c6
            have c6b1 : (a0 != 101) = true := bne_iff_ne.mpr c6
            by_cases c7 : a0 = 102
            · rw [if_pos c7] at H
              have c7b0 : (a0 == 102) = true := beq_iff_eq.mpr c7
              have c7b1 : (a0 != 102) = false := bne_eq_false_iff_eq.mpr c7
              clear c7
              obtain rfl := Option.some.inj H
              go_enter Tryd.func7, Tryd.ntmps7
              go_wp2
              go_ret
              exact ⟨by first | rfl | (simp; done) | (simp [*]; done), by repeat (first | exact Drawn0.refl _ | apply Drawn0.step)⟩
            · rw [if_neg c7] at H
              have c7b0 : (a0 == 102) = false := beq_eq_false_iff_ne.mpr c7
              have c7b1 : (a0 != 102) = true := bne_iff_ne.mpr c7
              by_cases c8 : a0 = 104
              · rw [if_pos c8] at H
                have c8b0 : (a0 == 104) = true := beq_iff_eq.mpr c8
                have c8b1 : (a0 != 104) = false := bne_eq_false_iff_eq.mpr c8
                clear c8
                obtain rfl := Option.some.inj H
                go_enter Tryd.func7, Tryd.ntmps7
                go_wp2
                go_ret
                exact ⟨by first | rfl | (simp; done) | (simp [*]; done), by repeat (first | exact Drawn0.refl _ | apply Drawn0.step)⟩
              · rw [if_neg c8] at H
                have c8b0 : (a0 == 104) = false := beq_eq_false_iff_ne.mpr c8
                have c8b1 : (a0 != 104) = true := bne_iff_ne.mpr c8
                by_cases c9 : a0 = 105
                · rw [if_pos c9] at H
                  have c9b0 : (a0 == 105) = true := beq_iff_eq.mpr c9
                  have c9b1 : (a0 != 105) = false := bne_eq_false_iff_eq.mpr c9
                  clear c9
                  obtain rfl := Option.some.inj H
                  go_enter Tryd.func7, Tryd.ntmps7
                  go_wp2
                  go_ret
                  exact ⟨by first | rfl | (simp; done) | (simp [*]; done), by repeat (first | exact Drawn0.refl _ | apply Drawn0.step)⟩
                · rw [if_neg c9] at H
                  have c9b0 : (a0 == 105) = false := beq_eq_false_iff_ne.mpr c9
                  have c9b1 : (a0 != 105) = true := bne_iff_ne.mpr c9
                  by_cases c10 : a0 = 106
                  · rw [if_pos c10] at H
                    have c10b0 : (a0 == 106) = true := beq_iff_eq.mpr c10
                    have c10b1 : (a0 != 106) = false := bne_eq_false_iff_eq.mpr c10
                    clear c10
                    obtain rfl := Option.some.inj H
                    go_enter Tryd.func7, Tryd.ntmps7
                    go_wp2
                    go_ret
                    exact ⟨by first | rfl | (simp; done) | (simp [*]; done), by repeat (first | exact Drawn0.refl _ | apply Drawn0.step)⟩
                  · rw [if_neg c10] at H
                    have c10b0 : (a0 == 106) = false := beq_eq_false_iff_ne.mpr c10
                    have c10b1 : (a0 != 106) = true := bne_iff_ne.mpr c10
                    by_cases c11 : a0 = 108
                    · rw [if_pos c11] at H
                      have c11b0 : (a0 == 108) = true := beq_iff_eq.mpr c11
                      have c11b1 : (a0 != 108) = false := bne_eq_false_iff_eq.mpr c11
                      clear c11
                      obtain rfl := Option.some.inj H
                      go_enter Tryd.func7, Tryd.ntmps7
                      go_wp2
                      go_ret
                      exact ⟨by first | rfl | (simp; done) | (simp [*]; done), by repeat (first | exact Drawn0.refl _ | apply Drawn0.step)⟩
                    · rw [if_neg c11] at H
                      have c11b0 : (a0 == 108) = false := beq_eq_false_iff_ne.mpr c11
                      have c11b1 : (a0 != 108) = true := bne_iff_ne.mpr c11
                      by_cases c12 : a0 = 109
                      · rw [if_pos c12] at H
                        have c12b0 : (a0 == 109) = true := beq_iff_eq.mpr c12
                        have c12b1 : (a0 != 109) = false := bne_eq_false_iff_eq.mpr c12
                        clear c12
                        obtain rfl := Option.some.inj H
                        go_enter Tryd.func7, Tryd.ntmps7
                        go_wp2
                        go_ret
                        exact ⟨by first | rfl | (simp; done) | (simp [*]; done), by repeat (first | exact Drawn0.refl _ | apply Drawn0.step)⟩
                      · rw [if_neg c12] at H
                        have c12b0 : (a0 == 109) = false := beq_eq_false_iff_ne.mpr c12
                        have c12b1 : (a0 != 109) = true := bne_iff_ne.mpr c12
                        by_cases c13 : a0 = 110
                        · rw [if_pos c13] at H
                          have c13b0 : (a0 == 110) = true := beq_iff_eq.mpr c13
                          have c13b1 : (a0 != 110) = false := bne_eq_false_iff_eq.mpr c13
                          clear c13
                          obtain rfl := Option.some.inj H
                          go_enter Tryd.func7, Tryd.ntmps7
                          go_wp2
                          go_ret
                          exact ⟨by first | rfl | (simp; done) | (simp [*]; done), by repeat (first | exact Drawn0.refl _ | apply Drawn0.step)⟩
                        · rw [if_neg c13] at H
                          have c13b0 : (a0 == 110) = false := beq_eq_false_iff_ne.mpr c13
                          have c13b1 : (a0 != 110) = true := bne_iff_ne.mpr c13
                          by_cases c14 : a0 = 111
                          · rw [if_pos c14] at H
                            have c14b0 : (a0 == 111) = true := beq_iff_eq.mpr c14
                            have c14b1 : (a0 != 111) = false := bne_eq_false_iff_eq.mpr c14
                            clear c14
                            obtain rfl := Option.some.inj H
                            go_enter Tryd.func7, Tryd.ntmps7
                            go_wp2
                            go_ret
                            exact ⟨by first | rfl | (simp; done) | (simp [*]; done), by repeat (first | exact Drawn0.refl _ | apply Drawn0.step)⟩
                          · rw [if_neg c14] at H
                            have c14b0 : (a0 == 111) = false := beq_eq_false_iff_ne.mpr c14
                            have c14b1 : (a0 != 111) = true := bne_iff_ne.mpr c14
                            by_cases c15 : a0 = 115
                            · rw [if_pos c15] at H
                              have c15b0 : (a0 == 115) = true := beq_iff_eq.mpr c15
                              have c15b1 : (a0 != 115) = false := bne_eq_false_iff_eq.mpr c15
                              clear c15
                              obtain rfl := Option.some.inj H
                              go_enter Tryd.func7, Tryd.ntmps7
                              go_wp2
                              go_ret
                              exact ⟨by first | rfl | (simp; done) | (simp [*]; done), by repeat (first | exact Drawn0.refl _ | apply Drawn0.step)⟩
                            · rw [if_neg c15] at H
                              have c15b0 : (a0 == 115) = false := beq_eq_false_iff_ne.mpr c15
                              have c15b1 : (a0 != 115) = true := bne_iff_ne.mpr c15
                              by_cases c16 : a0 = 116
                              · rw [if_pos c16] at H
                                have c16b0 : (a0 == 116) = true := beq_iff_eq.mpr c16
                                have c16b1 : (a0 != 116) = false := bne_eq_false_iff_eq.mpr c16
                                clear c16
                                obtain rfl := Option.some.inj H
                                go_enter Tryd.func7, Tryd.ntmps7
                                go_wp2
                                go_ret
                                exact ⟨by first | rfl | (simp; done) | (simp [*]; done), by repeat (first | exact Drawn0.refl _ | apply Drawn0.step)⟩
                              · rw [if_neg c16] at H
                                have c16b0 : (a0 == 116) = false := beq_eq_false_iff_ne.mpr c16
                                have c16b1 : (a0 != 116) = true := bne_iff_ne.mpr c16
                                by_cases c17 : a0 = 117
                                · rw [if_pos c17] at H
                                  have c17b0 : (a0 == 117) = true := beq_iff_eq.mpr c17
                                  have c17b1 : (a0 != 117) = false := bne_eq_false_iff_eq.mpr c17
                                  clear c17
                                  obtain rfl := Option.some.inj H
                                  go_enter Tryd.func7, Tryd.ntmps7
                                  go_wp2
                                  go_ret
                                  exact ⟨by first | rfl | (simp; done) | (simp [*]; done), by repeat (first | exact Drawn0.refl _ | apply Drawn0.step)⟩
                                · rw [if_neg c17] at H
                                  have c17b0 : (a0 == 117) = false := beq_eq_false_iff_ne.mpr c17
                                  have c17b1 : (a0 != 117) = true := bne_iff_ne.mpr c17
                                  by_cases c18 : a0 = 118
                                  · rw [if_pos c18] at H
                                    have c18b0 : (a0 == 118) = true := beq_iff_eq.mpr c18
                                    have c18b1 : (a0 != 118) = false := bne_eq_false_iff_eq.mpr c18
                                    clear c18
                                    obtain rfl := Option.some.inj H
                                    go_enter Tryd.func7, Tryd.ntmps7
                                    go_wp2
                                    go_ret
                                    exact ⟨by first | rfl | (simp; done) | (simp [*]; done), by repeat (first | exact Drawn0.refl _ | apply Drawn0.step)⟩
                                  · rw [if_neg c18] at H
                                    have c18b0 : (a0 == 118) = false := beq_eq_false_iff_ne.mpr c18
                                    have c18b1 : (a0 != 118) = true := bne_iff_ne.mpr c18
                                    by_cases c19 : a0 = 120
                                    · rw [if_pos c19] at H
                                      have c19b0 : (a0 == 120) = true := beq_iff_eq.mpr c19
                                      have c19b1 : (a0 != 120) = false := bne_eq_false_iff_eq.mpr c19
                                      clear c19
                                      obtain rfl := Option.some.inj H
                                      go_enter Tryd.func7, Tryd.ntmps7
                                      go_wp2
                                      go_ret
                                      exact ⟨by first | rfl | (simp; done) | (simp [*]; done), by repeat (first | exact Drawn0.refl _ | apply Drawn0.step)⟩
                                    · rw [if_neg c19] at H
                                      have c19b0 : (a0 == 120) = false := beq_eq_false_iff_ne.mpr c19
                                      have c19b1 : (a0 != 120) = true := bne_iff_ne.mpr c19
                                      by_cases c20 : a0 = 121
                                      · rw [if_pos c20] at H
                                        have c20b0 : (a0 == 121) = true := beq_iff_eq.mpr c20
                                        have c20b1 : (a0 != 121) = false := bne_eq_false_iff_eq.mpr c20
                                        clear c20
                                        obtain rfl := Option.some.inj H
                                        go_enter Tryd.func7, Tryd.ntmps7
                                        go_wp2
                                        go_ret
                                        exact ⟨by first | rfl | (simp; done) | (simp [*]; done), by repeat (first | exact Drawn0.refl _ | apply Drawn0.step)⟩
                                      · rw [if_neg c20] at H
                                        have c20b0 : (a0 == 121) = false := beq_eq_false_iff_ne.mpr c20
                                        have c20b1 : (a0 != 121) = true := bne_iff_ne.mpr c20
                                        by_cases c21 : a0 = 122
                                        · rw [if_pos c21] at H
                                          have c21b0 : (a0 == 122) = true := beq_iff_eq.mpr c21
                                          have c21b1 : (a0 != 122) = false := bne_eq_false_iff_eq.mpr c21
                                          clear c21
                                          obtain rfl := Option.some.inj H
                                          go_enter Tryd.func7, Tryd.ntmps7
                                          go_wp2
                                          go_ret
                                          exact ⟨by first | rfl | (simp; done) | (simp [*]; done), by repeat (first | exact Drawn0.refl _ | apply Drawn0.step)⟩
                                        · rw [if_neg c21] at H
                                          have c21b0 : (a0 == 122) = false := beq_eq_false_iff_ne.mpr c21
                                          have c21b1 : (a0 != 122) = true := bne_iff_ne.mpr c21
                                          by_cases c22 : a0 = 112
                                          · rw [if_pos c22] at H
                                            have c22b0 : (a0 == 112) = true := beq_iff_eq.mpr c22
                                            have c22b1 : (a0 != 112) = false := bne_eq_false_iff_eq.mpr c22
                                            clear c22
                                            obtain rfl := Option.some.inj H
                                            go_enter Tryd.func7, Tryd.ntmps7
                                            go_wp2
                                            go_ret
                                            exact ⟨by first | rfl | (simp; done) | (simp [*]; done), by repeat (first | exact Drawn0.refl _ | apply Drawn0.step)⟩
                                          · rw [if_neg c22] at H
                                            have c22b0 : (a0 == 112) = false := beq_eq_false_iff_ne.mpr c22
                                            have c22b1 : (a0 != 112) = true := bne_iff_ne.mpr c22
                                            obtain rfl := Option.some.inj H
                                            go_enter Tryd.func7, Tryd.ntmps7
                                            go_wp2
                                            go_ret
                                            exact ⟨by first | rfl | (simp; done) | (simp [*]; done), by repeat (first | exact Drawn0.refl _ | apply Drawn0.step)⟩

/-! ### laws_rustOf: function 18 -/
def laws_rustOf.f (a0 : ByteArray) : Option (ByteArray) := if 6 + a0.size ≤ 9223372036854775807 then (if ((⟨#[95, 82, 73, 67, 49, 109]⟩ : ByteArray) ++ a0).size + 1 ≤ 9223372036854775807 then (some (((⟨#[95, 82, 73, 67, 49, 109]⟩ : ByteArray) ++ a0) ++ (⟨#[69]⟩ : ByteArray))) else (none)) else (none)
set_option maxHeartbeats 8000000 in
set_option maxRecDepth 100000 in
theorem laws_rustOf.calls (a0 : ByteArray) (r : ByteArray) (w : World) (h : laws_rustOf.f a0 = some r) :
    Calls Tryd.prog 18 #[.string a0] w fun e w' => e = .returned (.string r) ∧ Drawn0 w w' := by
  have H : (if 6 + a0.size ≤ 9223372036854775807 then (if ((⟨#[95, 82, 73, 67, 49, 109]⟩ : ByteArray) ++ a0).size + 1 ≤ 9223372036854775807 then (some (((⟨#[95, 82, 73, 67, 49, 109]⟩ : ByteArray) ++ a0) ++ (⟨#[69]⟩ : ByteArray))) else (none)) else (none)) = some r := h
  clear h
  by_cases c2 : 6 + a0.size ≤ 9223372036854775807
  · rw [if_pos c2] at H
    have c2b0 := eq_true c2
    have c2b1 : decide (6 + a0.size ≤ 9223372036854775807) = true := decide_eq_true c2
    try have c2b2 : (9223372036854775807 < 6 + a0.size) = False := eq_false (Nat.not_lt.2 c2)
    by_cases c3 : ((⟨#[95, 82, 73, 67, 49, 109]⟩ : ByteArray) ++ a0).size + 1 ≤ 9223372036854775807
    · rw [if_pos c3] at H
      have c3b0 := eq_true c3
      have c3b1 : decide (((⟨#[95, 82, 73, 67, 49, 109]⟩ : ByteArray) ++ a0).size + 1 ≤ 9223372036854775807) = true := decide_eq_true c3
      try have c3b2 : (9223372036854775807 < ((⟨#[95, 82, 73, 67, 49, 109]⟩ : ByteArray) ++ a0).size + 1) = False := eq_false (Nat.not_lt.2 c3)
      try have c3b4 : (9223372036854775807 < 6 + a0.size + 1) = False := eq_false (by have h_ := c3; (repeat rw [ByteArray.size_append] at h_); exact Nat.not_lt.2 h_)
      obtain rfl := Option.some.inj H
      go_enter Tryd.func18, Tryd.ntmps18
      go_wp2
      go_ret
      exact ⟨by first | rfl | (simp; done) | (simp [*]; done), by repeat (first | exact Drawn0.refl _ | apply Drawn0.step)⟩
    · rw [if_neg c3] at H
      exact absurd H (by simp)
  · rw [if_neg c2] at H
    exact absurd H (by simp)

/-! ### laws_rustArgumentIs: function 8 -/
def laws_rustArgumentIs.f (a0 : ByteArray) (a1 : ByteArray) : Option (Bool) := (laws_rustOf.f a0).bind fun t101 => ((impl_ToldB.f t101 false false false false false false false 0).bind fun bt102 => (if bt102.2 = 0 then (if 4 + a1.size ≤ 9223372036854775807 then (if ((⟨#[109, 58, 58, 60]⟩ : ByteArray) ++ a1).size + 1 ≤ 9223372036854775807 then (some (bt102.1.toList == (((⟨#[109, 58, 58, 60]⟩ : ByteArray) ++ a1) ++ (⟨#[62]⟩ : ByteArray)).toList)) else (none)) else (none)) else (some false)))
set_option maxHeartbeats 8000000 in
set_option maxRecDepth 100000 in
theorem laws_rustArgumentIs.calls (a0 : ByteArray) (a1 : ByteArray) (r : Bool) (w : World) (hT_ : DoorB w) (h : laws_rustArgumentIs.f a0 a1 = some r) :
    Calls Tryd.prog 8 #[.string a0, .string a1] w fun e w' => e = .returned (.bool r) ∧ Below w.heap.size w w' := by
  have hu39 := Tryd.underlying39
  have HB := Aside0.mk (Below.refl w.heap.size w)
  have H : ((laws_rustOf.f a0).bind fun t101 => ((impl_ToldB.f t101 false false false false false false false 0).bind fun bt102 => (if bt102.2 = 0 then (if 4 + a1.size ≤ 9223372036854775807 then (if ((⟨#[109, 58, 58, 60]⟩ : ByteArray) ++ a1).size + 1 ≤ 9223372036854775807 then (some (bt102.1.toList == (((⟨#[109, 58, 58, 60]⟩ : ByteArray) ++ a1) ++ (⟨#[62]⟩ : ByteArray)).toList)) else (none)) else (none)) else (some false)))) = some r := h
  clear h
  replace H := Option.bind_eq_some_iff.mp H
  obtain ⟨t101, A30, H⟩ := H
  replace H : ((impl_ToldB.f t101 false false false false false false false 0).bind fun bt102 => (if bt102.2 = 0 then (if 4 + a1.size ≤ 9223372036854775807 then (if ((⟨#[109, 58, 58, 60]⟩ : ByteArray) ++ a1).size + 1 ≤ 9223372036854775807 then (some (bt102.1.toList == (((⟨#[109, 58, 58, 60]⟩ : ByteArray) ++ a1) ++ (⟨#[62]⟩ : ByteArray)).toList)) else (none)) else (none)) else (some false))) = some r := H
  have A3 := Aside0.mk A30
  clear A30
  replace H := Option.bind_eq_some_iff.mp H
  obtain ⟨⟨t102, t103⟩, A40, H⟩ := H
  replace H : (if t103 = 0 then (if 4 + a1.size ≤ 9223372036854775807 then (if ((⟨#[109, 58, 58, 60]⟩ : ByteArray) ++ a1).size + 1 ≤ 9223372036854775807 then (some (t102.toList == (((⟨#[109, 58, 58, 60]⟩ : ByteArray) ++ a1) ++ (⟨#[62]⟩ : ByteArray)).toList)) else (none)) else (none)) else (some false)) = some r := H
  have A4 := Aside0.mk A40
  clear A40
  by_cases c5 : t103 = 0
  · rw [if_pos c5] at H
    have c5b0 : (t103 == 0) = true := beq_iff_eq.mpr c5
    have c5b1 : (t103 != 0) = false := bne_eq_false_iff_eq.mpr c5
    clear c5
    by_cases c6 : 4 + a1.size ≤ 9223372036854775807
    · rw [if_pos c6] at H
      have c6b0 := eq_true c6
      have c6b1 : decide (4 + a1.size ≤ 9223372036854775807) = true := decide_eq_true c6
      try have c6b2 : (9223372036854775807 < 4 + a1.size) = False := eq_false (Nat.not_lt.2 c6)
      by_cases c7 : ((⟨#[109, 58, 58, 60]⟩ : ByteArray) ++ a1).size + 1 ≤ 9223372036854775807
      · rw [if_pos c7] at H
        have c7b0 := eq_true c7
        have c7b1 : decide (((⟨#[109, 58, 58, 60]⟩ : ByteArray) ++ a1).size + 1 ≤ 9223372036854775807) = true := decide_eq_true c7
        try have c7b2 : (9223372036854775807 < ((⟨#[109, 58, 58, 60]⟩ : ByteArray) ++ a1).size + 1) = False := eq_false (Nat.not_lt.2 c7)
        try have c7b4 : (9223372036854775807 < 4 + a1.size + 1) = False := eq_false (by have h_ := c7; (repeat rw [ByteArray.size_append] at h_); exact Nat.not_lt.2 h_)
        obtain rfl := Option.some.inj H
        go_enter Tryd.func8, Tryd.ntmps8
        go_wp2_with (first | ((with_reducible refine gate_callee (f := 18) rfl ?_); refine goesL_ (some 9) rfl rfl Tryd.func18 (by kernel_rfl) rfl #[.string a0] rfl (by (try simp only [List.map_toArray, List.map_cons, List.map_nil]); first | done | rfl | (simp only [List.length_drop, List.length_take]; rfl)) ?_; (with_reducible refine (laws_rustOf.calls a0 t101 _ A3.out).mono ?_); rintro e w' ⟨rfl, ⟨nd, rfl⟩⟩; refine ⟨_, rfl, ?_⟩) | ((with_reducible refine gate_callee (f := 17) rfl ?_); refine goesL_ (some 11) rfl rfl Tryd.func17 (by kernel_rfl) rfl #[.string t101, .agg #[.bool false, .bool false, .bool false, .bool false, .bool false, .bool false, .bool false, .int .i64 0]] rfl (by (try simp only [List.map_toArray, List.map_cons, List.map_nil]); first | done | rfl | (simp only [List.length_drop, List.length_take]; rfl)) ?_; (with_reducible refine (impl_ToldB.calls t101 false false false false false false false 0 t102 t103 _ (show DoorB _ from ?side1) A4.out).mono ?_); (case side1 => exact Stays.below hT_ (by first | (repeat (first | (with_reducible first | exact HB.out | apply below_alloc | apply pw_below_drewN | apply below_drew1) | exact HB.out)) | (repeat (first | exact Below.refl _ _ | apply below_drew1 | apply pw_below_drewN)))); rintro e w8 ⟨rfl, hb⟩; refine ⟨_, rfl, ?_⟩; have n0_ := Aside0.mk (below_step (by repeat (first | (with_reducible first | exact HB.out | apply below_alloc | apply pw_below_drewN | apply below_drew1) | exact HB.out)) hb); clear HB; have HB := n0_; clear n0_; (try clear hb); (try clear hb2); (try clear hk); (try clear hi)))
        go_ret
        exact ⟨by first | rfl | (simp [errW_none, errW_some] <;> rfl) | (simp [*, errW_none, errW_some] <;> rfl), by repeat (first | (with_reducible first | exact HB.out | apply below_alloc | apply pw_below_drewN | apply below_drew1) | exact HB.out)⟩
      · rw [if_neg c7] at H
        exact absurd H (by simp)
    · rw [if_neg c6] at H
      exact absurd H (by simp)
  · rw [if_neg c5] at H
    have c5b0 : (t103 == 0) = false := beq_eq_false_iff_ne.mpr c5
    have c5b1 : (t103 != 0) = true := bne_iff_ne.mpr c5
    obtain rfl := Option.some.inj H
    go_enter Tryd.func8, Tryd.ntmps8
    go_wp2_with (first | ((with_reducible refine gate_callee (f := 18) rfl ?_); refine goesL_ (some 9) rfl rfl Tryd.func18 (by kernel_rfl) rfl #[.string a0] rfl (by (try simp only [List.map_toArray, List.map_cons, List.map_nil]); first | done | rfl | (simp only [List.length_drop, List.length_take]; rfl)) ?_; (with_reducible refine (laws_rustOf.calls a0 t101 _ A3.out).mono ?_); rintro e w' ⟨rfl, ⟨nd, rfl⟩⟩; refine ⟨_, rfl, ?_⟩) | ((with_reducible refine gate_callee (f := 17) rfl ?_); refine goesL_ (some 11) rfl rfl Tryd.func17 (by kernel_rfl) rfl #[.string t101, .agg #[.bool false, .bool false, .bool false, .bool false, .bool false, .bool false, .bool false, .int .i64 0]] rfl (by (try simp only [List.map_toArray, List.map_cons, List.map_nil]); first | done | rfl | (simp only [List.length_drop, List.length_take]; rfl)) ?_; (with_reducible refine (impl_ToldB.calls t101 false false false false false false false 0 t102 t103 _ (show DoorB _ from ?side1) A4.out).mono ?_); (case side1 => exact Stays.below hT_ (by first | (repeat (first | (with_reducible first | exact HB.out | apply below_alloc | apply pw_below_drewN | apply below_drew1) | exact HB.out)) | (repeat (first | exact Below.refl _ _ | apply below_drew1 | apply pw_below_drewN)))); rintro e w9 ⟨rfl, hb⟩; refine ⟨_, rfl, ?_⟩; have n0_ := Aside0.mk (below_step (by repeat (first | (with_reducible first | exact HB.out | apply below_alloc | apply pw_below_drewN | apply below_drew1) | exact HB.out)) hb); clear HB; have HB := n0_; clear n0_; (try clear hb); (try clear hb2); (try clear hk); (try clear hi)))
    go_ret
    exact ⟨by first | rfl | (simp [errW_none, errW_some] <;> rfl) | (simp [*, errW_none, errW_some] <;> rfl), by repeat (first | (with_reducible first | exact HB.out | apply below_alloc | apply pw_below_drewN | apply below_drew1) | exact HB.out)⟩

/-! ### laws_FnRustBasic: function 3 -/
def laws_FnRustBasic.f (a0 : Int) : Option (Bool) := (spec_RustBasicText.f a0).bind fun t104 => (if t104.toList = ([] : List UInt8) then (some true) else ((laws_rustArgumentIs.f (strOfNums (([a0] : List Int))) t104).bind fun t108 => (some t108)))
set_option maxHeartbeats 8000000 in
set_option maxRecDepth 100000 in
theorem laws_FnRustBasic.calls (a0 : Int) (r : Bool) (w : World) (hT_ : DoorB w) (h : laws_FnRustBasic.f a0 = some r) :
    Calls Tryd.prog 3 #[.int .u8 a0] w fun e w' => e = .returned (.bool r) ∧ Below w.heap.size w w' := by
  have HB := Aside0.mk (Below.refl w.heap.size w)
  have H : ((spec_RustBasicText.f a0).bind fun t104 => (if t104.toList = ([] : List UInt8) then (some true) else ((laws_rustArgumentIs.f (strOfNums (([a0] : List Int))) t104).bind fun t108 => (some t108)))) = some r := h
  clear h
  replace H := Option.bind_eq_some_iff.mp H
  obtain ⟨t104, A20, H⟩ := H
  replace H : (if t104.toList = ([] : List UInt8) then (some true) else ((laws_rustArgumentIs.f (strOfNums (([a0] : List Int))) t104).bind fun t108 => (some t108))) = some r := H
  have A2 := Aside0.mk A20
  clear A20
  by_cases c3 : t104.toList = ([] : List UInt8)
  · rw [if_pos c3] at H
    have c3b0 : (t104.toList == ([] : List UInt8)) = true := beq_iff_eq.mpr c3
    have c3b1 : (t104.toList != ([] : List UInt8)) = false := bne_eq_false_iff_eq.mpr c3
    clear c3
    obtain rfl := Option.some.inj H
    go_enter Tryd.func3, Tryd.ntmps3
    go_wp2_with (first | ((with_reducible refine gate_callee (f := 7) rfl ?_); refine goesL_ (some 5) rfl rfl Tryd.func7 (by kernel_rfl) rfl #[.int .u8 a0] rfl (by (try simp only [List.map_toArray, List.map_cons, List.map_nil]); first | done | rfl | (simp only [List.length_drop, List.length_take]; rfl)) ?_; (with_reducible refine (spec_RustBasicText.calls a0 t104 _ A2.out).mono ?_); rintro e w' ⟨rfl, ⟨nd, rfl⟩⟩; refine ⟨_, rfl, ?_⟩))
    go_ret
    exact ⟨by first | rfl | (simp [errW_none, errW_some] <;> rfl) | (simp [*, errW_none, errW_some] <;> rfl), by repeat (first | (with_reducible first | exact HB.out | apply below_alloc | apply pw_below_drewN | apply below_drew1) | exact HB.out)⟩
  · rw [if_neg c3] at H
    have c3b0 : (t104.toList == ([] : List UInt8)) = false := beq_eq_false_iff_ne.mpr c3
    have c3b1 : (t104.toList != ([] : List UInt8)) = true := bne_iff_ne.mpr c3
    obtain ⟨y105, hy105⟩ : ∃ y_ : List Int, y_ = (([a0] : List Int)) := ⟨_, rfl⟩
    replace H : ((laws_rustArgumentIs.f (strOfNums y105) t104).bind fun t108 => (some t108)) = some r := by first | (rw [hy105]; with_reducible exact H) | (have H2_ := (Option.bind_some _ _).symm.trans H; rw [hy105]; with_reducible exact H2_) | (have H2_ := (Option.bind_some _ _).symm.trans H; with_reducible exact H2_) | with_reducible exact H | (rw [hy105]; exact H) | exact H
    have Ny105 := Aside0.mk hy105
    clear hy105
    replace H := Option.bind_eq_some_iff.mp H
    obtain ⟨t108, A40, H⟩ := H
    replace H : (some t108) = some r := H
    have A4 := Aside0.mk A40
    clear A40
    obtain rfl := Option.some.inj H
    go_enter Tryd.func3, Tryd.ntmps3
    go_wp2_with (first | ((with_reducible refine gate_callee (f := 7) rfl ?_); refine goesL_ (some 5) rfl rfl Tryd.func7 (by kernel_rfl) rfl #[.int .u8 a0] rfl (by (try simp only [List.map_toArray, List.map_cons, List.map_nil]); first | done | rfl | (simp only [List.length_drop, List.length_take]; rfl)) ?_; (with_reducible refine (spec_RustBasicText.calls a0 t104 _ A2.out).mono ?_); rintro e w' ⟨rfl, ⟨nd, rfl⟩⟩; refine ⟨_, rfl, ?_⟩) | ((with_reducible refine gate_dst (N := 10) rfl ?_); (try (refine gate_guard (by rfl) ?_; dsimp only)); refine Kd.R_lit (Kd.int .u8) _ 5 ?hg (N := 10) ?hd (xs := ([a0] : List Int)) (inner := [.int .u8 a0]) (ok := fun _ => True) (okp := fun _ => True) ?hr ?hp (fun _ hk => hk) trivial (Below.refl _ _) (Nat.le_refl _) (by simp) ?_; (case hd => rfl); (case hg => rfl); (case hr => first | (go_simp; done) | (go_simp; rfl)); (case hp => exact (Reps.one (show Kd.M (Kd.int .u8) _ _ _ a0 [.int .u8 a0] from rfl) (Reps.none _ _))); intro v106 w5 ho6 hb hg_ hnew_; clear hg_ hnew_; (first | rw [← Ny105.out] at ho6 | (simp only [Int.reduceToNat] at ho6; rw [← Ny105.out] at ho6)); have n0_ := Aside0.mk (Kd.R_lower ho6 (below_size (by repeat (first | (with_reducible first | exact HB.out | apply below_alloc | apply pw_below_drewN | apply below_drew1) | exact HB.out)))); have n1_ := Aside0.mk (below_step (by repeat (first | (with_reducible first | exact HB.out | apply below_alloc | apply pw_below_drewN | apply below_drew1) | exact HB.out)) hb); clear HB; have HO107 := n0_; have HB := n1_; clear n0_ n1_; clear hb ho6; have hcv7 := own_string (P := Tryd.prog) Tryd.underlying24 Tryd.underlying5 Tryd.underlying9 (Kd.own_of_R HO107.out)) | (go_at_call 8; (with_reducible refine (laws_rustArgumentIs.calls (strOfNums y105) t104 t108 _ (show DoorB _ from ?side1) A4.out).mono ?_); (case side1 => exact Stays.below hT_ (by first | (repeat (first | (with_reducible first | exact HB.out | apply below_alloc | apply pw_below_drewN | apply below_drew1) | exact HB.out)) | (repeat (first | exact Below.refl _ _ | apply below_drew1 | apply pw_below_drewN)))); rintro e w8 ⟨rfl, hb⟩; have n0_ := Aside0.mk (Kd.R_below (by (with_reducible repeat (first | apply Kd.R_alloc | apply Kd.R_drewN | apply Kd.R_drew)); exact HO107.out) hb); have n1_ := Aside0.mk (below_step (by repeat (first | (with_reducible first | exact HB.out | apply below_alloc | apply pw_below_drewN | apply below_drew1) | exact HB.out)) hb); clear HO107; clear HB; have HO107 := n0_; have HB := n1_; clear n0_ n1_; (try clear hb); (try clear hb2); (try clear hk); (try clear hi)))
    go_ret
    exact ⟨by first | rfl | (simp [errW_none, errW_some] <;> rfl) | (simp [*, errW_none, errW_some] <;> rfl), by repeat (first | (with_reducible first | exact HB.out | apply below_alloc | apply pw_below_drewN | apply below_drew1) | exact HB.out)⟩

/-- THE ONE PURE STATEMENT of laws_FnRustBasic: yours. -/
def laws_FnRustBasic.Pure : Prop := ∀ (a0 : Int), (Lit.int .u8 a0).wf = true → laws_FnRustBasic.f a0 = some true
theorem laws_FnRustBasic.walk (P : laws_FnRustBasic.Pure) (a0 : Int) (w : World) (hT_ : DoorB w) (w0 : (Lit.int .u8 a0).wf = true) :
    Calls Tryd.prog 3 #[.int .u8 a0] w fun e w' => e = .returned (.bool true) ∧ Below w.heap.size w w' := by
  have h := P a0 w0
  refine (laws_FnRustBasic.calls a0 true w hT_ h).mono ?_
  rintro e w' ⟨rfl, hd⟩
  exact ⟨rfl, hd⟩

end Go.Proofs.YtdmkdclockmjbaaDoor.PFnRustBasic
