/- Written by a program of this session (wip/tools/myprint.py) with the kit's print: contracts of the functions that one statement reaches; functions that are proved by hand are taken as printed. Conditions: none. -/
import Derived.Test.YtfblehpiecialaaDoorPFnBasicOnex0
namespace Go.Proofs.YtfblehpiecialaaDoor.PFnBasicOne
open Go.RowKit Go.Proofs.YtfblehpiecialaaDoorW.PrintWords Go.Proofs.YtfblehpiecialaaDoorW.PrintLast Go.Proofs.YtfblehpiecialaaDoorW.PrintMore
attribute [local go_sem] max2_int min2_int max_two min_two max_three min_three max_four min_four   -- for this text's walks alone
set_option linter.unusedVariables false
set_option linter.unusedSimpArgs false

/-! ### spec_RustBasicText: function 11 -/
def spec_RustBasicText.f (a0 : Int) : Option (ByteArray) := if a0 = 97 then (some (⟨#[105, 56]⟩ : ByteArray)) else (if a0 = 98 then (some (⟨#[98, 111, 111, 108]⟩ : ByteArray)) else (if a0 = 99 then (some (⟨#[99, 104, 97, 114]⟩ : ByteArray)) else (if a0 = 100 then (some (⟨#[102, 54, 52]⟩ : ByteArray)) else (if a0 = 101 then (some (⟨#[115, 116, 114]⟩ : ByteArray)) else (if a0 = 102 then (some (⟨#[102, 51, 50]⟩ : ByteArray)) else (if a0 = 104 then (some (⟨#[117, 56]⟩ : ByteArray)) else (if a0 = 105 then (some (⟨#[105, 115, 105, 122, 101]⟩ : ByteArray)) else (if a0 = 106 then (some (⟨#[117, 115, 105, 122, 101]⟩ : ByteArray)) else (if a0 = 108 then (some (⟨#[105, 51, 50]⟩ : ByteArray)) else (if a0 = 109 then (some (⟨#[117, 51, 50]⟩ : ByteArray)) else (if a0 = 110 then (some (⟨#[105, 49, 50, 56]⟩ : ByteArray)) else (if a0 = 111 then (some (⟨#[117, 49, 50, 56]⟩ : ByteArray)) else (if a0 = 115 then (some (⟨#[105, 49, 54]⟩ : ByteArray)) else (if a0 = 116 then (some (⟨#[117, 49, 54]⟩ : ByteArray)) else (if a0 = 117 then (some (⟨#[40, 41]⟩ : ByteArray)) else (if a0 = 118 then (some (⟨#[46, 46, 46]⟩ : ByteArray)) else (if a0 = 120 then (some (⟨#[105, 54, 52]⟩ : ByteArray)) else (if a0 = 121 then (some (⟨#[117, 54, 52]⟩ : ByteArray)) else (if a0 = 122 then (some (⟨#[33]⟩ : ByteArray)) else (if a0 = 112 then (some (⟨#[95]⟩ : ByteArray)) else (some (⟨#[]⟩ : ByteArray))))))))))))))))))))))
set_option maxHeartbeats 8000000 in
set_option maxRecDepth 100000 in
theorem spec_RustBasicText.calls (a0 : Int) (r : ByteArray) (w : World) (h : spec_RustBasicText.f a0 = some r) :
    Calls Tryd.prog 11 #[.int .u8 a0] w fun e w' => e = .returned (.string r) ∧ Drawn0 w w' := by
  have H : (if a0 = 97 then (some (⟨#[105, 56]⟩ : ByteArray)) else (if a0 = 98 then (some (⟨#[98, 111, 111, 108]⟩ : ByteArray)) else (if a0 = 99 then (some (⟨#[99, 104, 97, 114]⟩ : ByteArray)) else (if a0 = 100 then (some (⟨#[102, 54, 52]⟩ : ByteArray)) else (if a0 = 101 then (some (⟨#[115, 116, 114]⟩ : ByteArray)) else (if a0 = 102 then (some (⟨#[102, 51, 50]⟩ : ByteArray)) else (if a0 = 104 then (some (⟨#[117, 56]⟩ : ByteArray)) else (if a0 = 105 then (some (⟨#[105, 115, 105, 122, 101]⟩ : ByteArray)) else (if a0 = 106 then (some (⟨#[117, 115, 105, 122, 101]⟩ : ByteArray)) else (if a0 = 108 then (some (⟨#[105, 51, 50]⟩ : ByteArray)) else (if a0 = 109 then (some (⟨#[117, 51, 50]⟩ : ByteArray)) else (if a0 = 110 then (some (⟨#[105, 49, 50, 56]⟩ : ByteArray)) else (if a0 = 111 then (some (⟨#[117, 49, 50, 56]⟩ : ByteArray)) else (if a0 = 115 then (some (⟨#[105, 49, 54]⟩ : ByteArray)) else (if a0 = 116 then (some (⟨#[117, 49, 54]⟩ : ByteArray)) else (if a0 = 117 then (some (⟨#[40, 41]⟩ : ByteArray)) else (if a0 = 118 then (some (⟨#[46, 46, 46]⟩ : ByteArray)) else (if a0 = 120 then (some (⟨#[105, 54, 52]⟩ : ByteArray)) else (if a0 = 121 then (some (⟨#[117, 54, 52]⟩ : ByteArray)) else (if a0 = 122 then (some (⟨#[33]⟩ : ByteArray)) else (if a0 = 112 then (some (⟨#[95]⟩ : ByteArray)) else (some (⟨#[]⟩ : ByteArray))))))))))))))))))))))) = some r := h
  clear h
  by_cases c2 : a0 = 97
  · rw [if_pos c2] at H
    have c2b0 : (a0 == 97) = true := beq_iff_eq.mpr c2
    have c2b1 : (a0 != 97) = false := bne_eq_false_iff_eq.mpr c2
    clear c2
    obtain rfl := Option.some.inj H
    go_enter Tryd.func11, Tryd.ntmps11
    go_wp2
    go_ret
    exact ⟨by first | rfl | (simp; done) | (simp [*]; done), by repeat (first | exact Drawn0.refl _ | apply Drawn0.step)⟩
  · rw [if_neg c2] at H
    have c2b0 : (a0 == 97) = false := beq_eq_false_iff_ne.mpr c2
    have c2b1 : (a0 != 97) = true := bne_iff_ne.mpr c2
    by_cases c3 : a0 = 98
    · rw [if_pos c3] at H
      have c3b0 : (a0 == 98) = true := beq_iff_eq.mpr c3
      have c3b1 : (a0 != 98) = false := bne_eq_false_iff_eq.mpr c3
      clear c3
      obtain rfl := Option.some.inj H
      go_enter Tryd.func11, Tryd.ntmps11
      go_wp2
      go_ret
      exact ⟨by first | rfl | (simp; done) | (simp [*]; done), by repeat (first | exact Drawn0.refl _ | apply Drawn0.step)⟩
    · rw [if_neg c3] at H
      have c3b0 : (a0 == 98) = false := beq_eq_false_iff_ne.mpr c3
      have c3b1 : (a0 != 98) = true := bne_iff_ne.mpr c3
      by_cases c4 : a0 = 99
      · rw [if_pos c4] at H
        have c4b0 : (a0 == 99) = true := beq_iff_eq.mpr c4
        have c4b1 : (a0 != 99) = false := bne_eq_false_iff_eq.mpr c4
        clear c4
        obtain rfl := Option.some.inj H
        go_enter Tryd.func11, Tryd.ntmps11
        go_wp2
        go_ret
        exact ⟨by first | rfl | (simp; done) | (simp [*]; done), by repeat (first | exact Drawn0.refl _ | apply Drawn0.step)⟩
      · rw [if_neg c4] at H
        have c4b0 : (a0 == 99) = false := beq_eq_false_iff_ne.mpr c4
        have c4b1 : (a0 != 99) = true := bne_iff_ne.mpr c4
        by_cases c5 : a0 = 100
        · rw [if_pos c5] at H
          have c5b0 : (a0 == 100) = true := beq_iff_eq.mpr c5
          have c5b1 : (a0 != 100) = false := bne_eq_false_iff_eq.mpr c5
          clear c5
          obtain rfl := Option.some.inj H
          go_enter Tryd.func11, Tryd.ntmps11
          go_wp2
          go_ret
          exact ⟨by first | rfl | (simp; done) | (simp [*]; done), by repeat (first | exact Drawn0.refl _ | apply Drawn0.step)⟩
        · rw [if_neg c5] at H
          have c5b0 : (a0 == 100) = false := beq_eq_false_iff_ne.mpr c5
          have c5b1 : (a0 != 100) = true := bne_iff_ne.mpr c5
          by_cases c6 : a0 = 101
          · rw [if_pos c6] at H
            have c6b0 : (a0 == 101) = true := beq_iff_eq.mpr c6
            have c6b1 : (a0 != 101) = false := bne_eq_false_iff_eq.mpr c6
            clear c6
            obtain rfl := Option.some.inj H
            go_enter Tryd.func11, Tryd.ntmps11
            go_wp2
            go_ret
            exact ⟨by first | rfl | (simp; done) | (simp [*]; done), by repeat (first | exact Drawn0.refl _ | apply Drawn0.step)⟩
          · rw [if_neg c6] at H
            have c6b0 : (a0 == 101) = false := beq_eq_false_iff_ne.mpr c6
            have c6b1 : (a0 != 101) = true := bne_iff_ne.mpr c6
            by_cases c7 : a0 = 102
            · rw [if_pos c7] at H
              have c7b0 : (a0 == 102) = true := beq_iff_eq.mpr c7
              have c7b1 : (a0 != 102) = false := bne_eq_false_iff_eq.mpr c7
              clear c7
              obtain rfl := Option.some.inj H
              go_enter Tryd.func11, Tryd.ntmps11
              go_wp2
              go_ret
              exact ⟨by first | rfl | (simp; done) | (simp [*]; done), by repeat (first | exact Drawn0.refl _ | apply Drawn0.step)⟩
            · rw [if_neg c7] at H
              have c7b0 : (a0 == 102) = false := beq_eq_false_iff_ne.mpr c7
              have c7b1 : (a0 != 102) = true := bne_iff_ne.mpr c7
              by_cases c8 : a0 = 104
              · rw [if_pos c8] at H
                have c8b0 : (a0 == 104) = true := beq_iff_eq.mpr c8
                have c8b1 : (a0 != 104) = false := bne_eq_false_iff_eq.mpr c8
                clear c8
                obtain rfl := Option.some.inj H
                go_enter Tryd.func11, Tryd.ntmps11
                go_wp2
                go_ret
                exact ⟨by first | rfl | (simp; done) | (simp [*]; done), by repeat (first | exact Drawn0.refl _ | apply Drawn0.step)⟩
              · rw [if_neg c8] at H
                have c8b0 : (a0 == 104) = false := beq_eq_false_iff_ne.mpr c8
                have c8b1 : (a0 != 104) = true := bne_iff_ne.mpr c8
                by_cases c9 : a0 = 105
                · rw [if_pos c9] at H
                  have c9b0 : (a0 == 105) = true := beq_iff_eq.mpr c9
                  have c9b1 : (a0 != 105) = false := bne_eq_false_iff_eq.mpr c9
                  clear c9
                  obtain rfl := Option.some.inj H
                  go_enter Tryd.func11, Tryd.ntmps11
                  go_wp2
                  go_ret
                  exact ⟨by first | rfl | (simp; done) | (simp [*]; done), by repeat (first | exact Drawn0.refl _ | apply Drawn0.step)⟩
                · rw [if_neg c9] at H
                  have c9b0 : (a0 == 105) = false := beq_eq_false_iff_ne.mpr c9
                  have c9b1 : (a0 != 105) = true := bne_iff_ne.mpr c9
                  by_cases c10 : a0 = 106
                  · rw [if_pos c10] at H
                    have c10b0 : (a0 == 106) = true := beq_iff_eq.mpr c10
                    have c10b1 : (a0 != 106) = false := bne_eq_false_iff_eq.mpr c10
                    clear c10
                    obtain rfl := Option.some.inj H
                    go_enter Tryd.func11, Tryd.ntmps11
                    go_wp2
                    go_ret
                    exact ⟨by first | rfl | (simp; done) | (simp [*]; done), by repeat (first | exact Drawn0.refl _ | apply Drawn0.step)⟩
                  · rw [if_neg c10] at H
                    have c10b0 : (a0 == 106) = false := beq_eq_false_iff_ne.mpr c10
                    have c10b1 : (a0 != 106) = true := bne_iff_ne.mpr c10
                    by_cases c11 : a0 = 108
                    · rw [if_pos c11] at H
                      have c11b0 : (a0 == 108) = true := beq_iff_eq.mpr c11
                      have c11b1 : (a0 != 108) = false := bne_eq_false_iff_eq.mpr c11
                      clear c11
                      obtain rfl := Option.some.inj H
                      go_enter Tryd.func11, Tryd.ntmps11
                      go_wp2
                      go_ret
                      exact ⟨by first | rfl | (simp; done) | (simp [*]; done), by repeat (first | exact Drawn0.refl _ | apply Drawn0.step)⟩
                    · rw [if_neg c11] at H
                      have c11b0 : (a0 == 108) = false := beq_eq_false_iff_ne.mpr c11
                      have c11b1 : (a0 != 108) = true := bne_iff_ne.mpr c11
                      by_cases c12 : a0 = 109
                      · rw [if_pos c12] at H
                        have c12b0 : (a0 == 109) = true := beq_iff_eq.mpr c12
                        have c12b1 : (a0 != 109) = false := bne_eq_false_iff_eq.mpr c12
                        clear c12
                        obtain rfl := Option.some.inj H
                        go_enter Tryd.func11, Tryd.ntmps11
                        go_wp2
                        go_ret
                        exact ⟨by first | rfl | (simp; done) | (simp [*]; done), by repeat (first | exact Drawn0.refl _ | apply Drawn0.step)⟩
                      · rw [if_neg c12] at H
                        have c12b0 : (a0 == 109) = false := beq_eq_false_iff_ne.mpr c12
                        have c12b1 : (a0 != 109) = true := bne_iff_ne.mpr c12
                        by_cases c13 : a0 = 110
                        · rw [if_pos c13] at H
                          have c13b0 : (a0 == 110) = true := beq_iff_eq.mpr c13
                          have c13b1 : (a0 != 110) = false := bne_eq_false_iff_eq.mpr c13
                          clear c13
                          obtain rfl := Option.some.inj H
                          go_enter Tryd.func11, Tryd.ntmps11
                          go_wp2
                          go_ret
                          exact ⟨by first | rfl | (simp; done) | (simp [*]; done), by repeat (first | exact Drawn0.refl _ | apply Drawn0.step)⟩
                        · rw [if_neg c13] at H
                          have c13b0 : (a0 == 110) = false := beq_eq_false_iff_ne.mpr c13
                          have c13b1 : (a0 != 110) = true := bne_iff_ne.mpr c13
                          by_cases c14 : a0 = 111
                          · rw [if_pos c14] at H
                            have c14b0 : (a0 == 111) = true := beq_iff_eq.mpr c14
                            have c14b1 : (a0 != 111) = false := bne_eq_false_iff_eq.mpr c14
                            clear c14
                            obtain rfl := Option.some.inj H
                            go_enter Tryd.func11, Tryd.ntmps11
                            go_wp2
                            go_ret
                            exact ⟨by first | rfl | (simp; done) | (simp [*]; done), by repeat (first | exact Drawn0.refl _ | apply Drawn0.step)⟩
                          · rw [if_neg c14] at H
                            have c14b0 : (a0 == 111) = false := beq_eq_false_iff_ne.mpr c14
                            have c14b1 : (a0 != 111) = true := bne_iff_ne.mpr c14
                            by_cases c15 : a0 = 115
                            · rw [if_pos c15] at H
                              have c15b0 : (a0 == 115) = true := beq_iff_eq.mpr c15
                              have c15b1 : (a0 != 115) = false := bne_eq_false_iff_eq.mpr c15
                              clear c15
                              obtain rfl := Option.some.inj H
                              go_enter Tryd.func11, Tryd.ntmps11
                              go_wp2
                              go_ret
                              exact ⟨by first | rfl | (simp; done) | (simp [*]; done), by repeat (first | exact Drawn0.refl _ | apply Drawn0.step)⟩
                            · rw [if_neg c15] at H
                              have c15b0 : (a0 == 115) = false := beq_eq_false_iff_ne.mpr c15
                              have c15b1 : (a0 != 115) = true := bne_iff_ne.mpr c15
                              by_cases c16 : a0 = 116
                              · rw [if_pos c16] at H
                                have c16b0 : (a0 == 116) = true := beq_iff_eq.mpr c16
                                have c16b1 : (a0 != 116) = false := bne_eq_false_iff_eq.mpr c16
                                clear c16
                                obtain rfl := Option.some.inj H
                                go_enter Tryd.func11, Tryd.ntmps11
                                go_wp2
                                go_ret
                                exact ⟨by first | rfl | (simp; done) | (simp [*]; done), by repeat (first | exact Drawn0.refl _ | apply Drawn0.step)⟩
                              · rw [if_neg c16] at H
                                have c16b0 : (a0 == 116) = false := beq_eq_false_iff_ne.mpr c16
                                have c16b1 : (a0 != 116) = true := bne_iff_ne.mpr c16
                                by_cases c17 : a0 = 117
                                · rw [if_pos c17] at H
                                  have c17b0 : (a0 == 117) = true := beq_iff_eq.mpr c17
                                  have c17b1 : (a0 != 117) = false := bne_eq_false_iff_eq.mpr c17
                                  clear c17
                                  obtain rfl := Option.some.inj H
                                  go_enter Tryd.func11, Tryd.ntmps11
                                  go_wp2
                                  go_ret
                                  exact ⟨by first | rfl | (simp; done) | (simp [*]; done), by repeat (first | exact Drawn0.refl _ | apply Drawn0.step)⟩
                                · rw [if_neg c17] at H
                                  have c17b0 : (a0 == 117) = false := beq_eq_false_iff_ne.mpr c17
                                  have c17b1 : (a0 != 117) = true := bne_iff_ne.mpr c17
                                  by_cases c18 : a0 = 118
                                  · rw [if_pos c18] at H
                                    have c18b0 : (a0 == 118) = true := beq_iff_eq.mpr c18
                                    have c18b1 : (a0 != 118) = false := bne_eq_false_iff_eq.mpr c18
                                    clear c18
                                    obtain rfl := Option.some.inj H
                                    go_enter Tryd.func11, Tryd.ntmps11
                                    go_wp2
                                    go_ret
                                    exact ⟨by first | rfl | (simp; done) | (simp [*]; done), by repeat (first | exact Drawn0.refl _ | apply Drawn0.step)⟩
                                  · rw [if_neg c18] at H
                                    have c18b0 : (a0 == 118) = false := beq_eq_false_iff_ne.mpr c18
                                    have c18b1 : (a0 != 118) = true := bne_iff_ne.mpr c18
                                    by_cases c19 : a0 = 120
                                    · rw [if_pos c19] at H
                                      have c19b0 : (a0 == 120) = true := beq_iff_eq.mpr c19
                                      have c19b1 : (a0 != 120) = false := bne_eq_false_iff_eq.mpr c19
                                      clear c19
                                      obtain rfl := Option.some.inj H
                                      go_enter Tryd.func11, Tryd.ntmps11
                                      go_wp2
                                      go_ret
                                      exact ⟨by first | rfl | (simp; done) | (simp [*]; done), by repeat (first | exact Drawn0.refl _ | apply Drawn0.step)⟩
                                    · rw [if_neg c19] at H
                                      have c19b0 : (a0 == 120) = false := beq_eq_false_iff_ne.mpr c19
                                      have c19b1 : (a0 != 120) = true := bne_iff_ne.mpr c19
                                      by_cases c20 : a0 = 121
                                      · rw [if_pos c20] at H
                                        have c20b0 : (a0 == 121) = true := beq_iff_eq.mpr c20
                                        have c20b1 : (a0 != 121) = false := bne_eq_false_iff_eq.mpr c20
                                        clear c20
                                        obtain rfl := Option.some.inj H
                                        go_enter Tryd.func11, Tryd.ntmps11
                                        go_wp2
                                        go_ret
                                        exact ⟨by first | rfl | (simp; done) | (simp [*]; done), by repeat (first | exact Drawn0.refl _ | apply Drawn0.step)⟩
                                      · rw [if_neg c20] at H
                                        have c20b0 : (a0 == 121) = false := beq_eq_false_iff_ne.mpr c20
                                        have c20b1 : (a0 != 121) = true := bne_iff_ne.mpr c20
                                        by_cases c21 : a0 = 122
                                        · rw [if_pos c21] at H
                                          have c21b0 : (a0 == 122) = true := beq_iff_eq.mpr c21
                                          have c21b1 : (a0 != 122) = false := bne_eq_false_iff_eq.mpr c21
                                          clear c21
                                          obtain rfl := Option.some.inj H
                                          go_enter Tryd.func11, Tryd.ntmps11
                                          go_wp2
                                          go_ret
                                          exact ⟨by first | rfl | (simp; done) | (simp [*]; done), by repeat (first | exact Drawn0.refl _ | apply Drawn0.step)⟩
                                        · rw [if_neg c21] at H
                                          have c21b0 : (a0 == 122) = false := beq_eq_false_iff_ne.mpr c21
                                          have c21b1 : (a0 != 122) = true := bne_iff_ne.mpr c21
                                          by_cases c22 : a0 = 112
                                          · rw [if_pos c22] at H
                                            have c22b0 : (a0 == 112) = true := beq_iff_eq.mpr c22
                                            have c22b1 : (a0 != 112) = false := bne_eq_false_iff_eq.mpr c22
                                            clear c22
                                            obtain rfl := Option.some.inj H
                                            go_enter Tryd.func11, Tryd.ntmps11
                                            go_wp2
                                            go_ret
                                            exact ⟨by first | rfl | (simp; done) | (simp [*]; done), by repeat (first | exact Drawn0.refl _ | apply Drawn0.step)⟩
                                          · rw [if_neg c22] at H
                                            have c22b0 : (a0 == 112) = false := beq_eq_false_iff_ne.mpr c22
                                            have c22b1 : (a0 != 112) = true := bne_iff_ne.mpr c22
                                            obtain rfl := Option.some.inj H
                                            go_enter Tryd.func11, Tryd.ntmps11
                                            go_wp2
                                            go_ret
                                            exact ⟨by first | rfl | (simp; done) | (simp [*]; done), by repeat (first | exact Drawn0.refl _ | apply Drawn0.step)⟩

/-! ### laws_FnBasicOne: function 3 -/
def laws_FnBasicOne.j0 : Nat → Int → Int → ByteArray → ByteArray → Bool → Option (Bool)
  | 0, _, _, _, _, _ => none
  | k + 1, x0, x1, x5, x6, x22 => if x22 = true then (some true) else ((impl_BasicType.f (strOfNums (([x0, x1] : List Int)))).bind fun bt106 => ((impl_BasicType.f bt106.2.1).bind fun bt109 => (if bt106.2.2 = true then (if bt109.2.2 = true then (if bt106.1.toList = x5.toList then (if bt109.1.toList = x6.toList then (some (bt109.2.1.toList == ([] : List UInt8))) else (some false)) else (some false)) else (some false)) else (some false))))
def laws_FnBasicOne.f (k : Nat) (a0 : Int) (a1 : Int) : Option (Bool) := (spec_RustBasicText.f a0).bind fun t101 => ((spec_RustBasicText.f a1).bind fun t102 => (if t101.toList = ([] : List UInt8) then (laws_FnBasicOne.j0 k a0 a1 t101 t102 true) else (laws_FnBasicOne.j0 k a0 a1 t101 t102 (t102.toList == ([] : List UInt8)))))
theorem laws_FnBasicOne.mono_l : ∀ k, (∀ y0 y1 y2 y3 y4, LeO (laws_FnBasicOne.j0 k y0 y1 y2 y3 y4) (laws_FnBasicOne.j0 (k + 1) y0 y1 y2 y3 y4))
  | 0 => fun _ _ _ _ _ r h => by simp [laws_FnBasicOne.j0] at h
  | k + 1 => by
    have ih0 := laws_FnBasicOne.mono_l k
    · intro y0 y1 y2 y3 y4
      unfold laws_FnBasicOne.j0
      repeat' first
      | (with_reducible exact ih0 _ _ _ _ _)
      | (with_reducible exact LeO.refl _)
      | (with_reducible exact LeO.none _)
      | (with_reducible refine LeO.ite ?_ ?_)
      | (with_reducible refine LeO.bind ?_ (fun _ => ?_))
      | exact ih0 _ _ _ _ _
      | exact LeO.none _
      | refine LeO.ite ?_ ?_
      | refine LeO.bind ?_ (fun _ => ?_)
theorem laws_FnBasicOne.mono : ∀ a0 a1 k, LeO (laws_FnBasicOne.f k a0 a1) (laws_FnBasicOne.f (k + 1) a0 a1) := by
  intro a0 a1 k
  have ih0 := laws_FnBasicOne.mono_l k
  unfold laws_FnBasicOne.f
  repeat' first
      | (with_reducible exact ih0 _ _ _ _ _)
      | (with_reducible exact LeO.refl _)
      | (with_reducible exact LeO.none _)
      | (with_reducible refine LeO.ite ?_ ?_)
      | (with_reducible refine LeO.bind ?_ (fun _ => ?_))
      | exact ih0 _ _ _ _ _
      | exact LeO.none _
      | refine LeO.ite ?_ ?_
      | refine LeO.bind ?_ (fun _ => ?_)
set_option maxHeartbeats 8000000 in
set_option maxRecDepth 100000 in
theorem laws_FnBasicOne.calls (k : Nat) (a0 : Int) (a1 : Int) (r : Bool) (w : World) (hT_ : MapIs w) (h : laws_FnBasicOne.f k a0 a1 = some r) :
    Calls Tryd.prog 3 #[.int .u8 a0, .int .u8 a1] w fun e w' => e = .returned (.bool r) ∧ Below w.heap.size w w' := by
  have HB := Aside0.mk (Below.refl w.heap.size w)
  have H : ((spec_RustBasicText.f a0).bind fun t101 => ((spec_RustBasicText.f a1).bind fun t102 => (if t101.toList = ([] : List UInt8) then (laws_FnBasicOne.j0 k a0 a1 t101 t102 true) else (laws_FnBasicOne.j0 k a0 a1 t101 t102 (t102.toList == ([] : List UInt8)))))) = some r := h
  clear h
  replace H := Option.bind_eq_some_iff.mp H
  obtain ⟨t101, A30, H⟩ := H
  replace H : ((spec_RustBasicText.f a1).bind fun t102 => (if t101.toList = ([] : List UInt8) then (laws_FnBasicOne.j0 k a0 a1 t101 t102 true) else (laws_FnBasicOne.j0 k a0 a1 t101 t102 (t102.toList == ([] : List UInt8))))) = some r := H
  have A3 := Aside0.mk A30
  clear A30
  replace H := Option.bind_eq_some_iff.mp H
  obtain ⟨t102, A40, H⟩ := H
  replace H : (if t101.toList = ([] : List UInt8) then (laws_FnBasicOne.j0 k a0 a1 t101 t102 true) else (laws_FnBasicOne.j0 k a0 a1 t101 t102 (t102.toList == ([] : List UInt8)))) = some r := H
  have A4 := Aside0.mk A40
  clear A40
  have HC5 := Aside0.mk H
  clear H
  go_enter Tryd.func3, Tryd.ntmps3
  go_upto_region 2 with (first | ((with_reducible refine gate_callee (f := 11) rfl ?_); refine goesL_ (some 14) rfl rfl Tryd.func11 (by kernel_rfl) rfl #[.int .u8 a0] rfl (by (try simp only [List.map_toArray, List.map_cons, List.map_nil]); first | done | rfl | (simp only [List.length_drop, List.length_take]; rfl)) ?_; (with_reducible refine (spec_RustBasicText.calls a0 t101 _ A3.out).mono ?_); rintro e w' ⟨rfl, ⟨nd, rfl⟩⟩; refine ⟨_, rfl, ?_⟩) | ((with_reducible refine gate_callee (f := 11) rfl ?_); refine goesL_ (some 16) rfl rfl Tryd.func11 (by kernel_rfl) rfl #[.int .u8 a1] rfl (by (try simp only [List.map_toArray, List.map_cons, List.map_nil]); first | done | rfl | (simp only [List.length_drop, List.length_take]; rfl)) ?_; (with_reducible refine (spec_RustBasicText.calls a1 t102 _ A4.out).mono ?_); rintro e w' ⟨rfl, ⟨nd, rfl⟩⟩; refine ⟨_, rfl, ?_⟩))
  (try simp only [Act.put, List.setIfInBounds_toArray, List.set_cons_zero, List.set_cons_succ])
  go_cut [22] (fun v22 wc => ∃ (kq : Nat) (x22_4 : Bool), v22 = .bool x22_4 ∧ Aside0 (laws_FnBasicOne.j0 kq a0 a1 t101 t102 x22_4 = some r) ∧ Aside0 (kq ≤ k) ∧ Aside0 (Below w.heap.size w wc))
  case first =>
    have H := HC5.out
    clear HC5
    by_cases c6 : t101.toList = ([] : List UInt8)
    · rw [if_pos c6] at H
      have c6b0 : (t101.toList == ([] : List UInt8)) = true := beq_iff_eq.mpr c6
      have c6b1 : (t101.toList != ([] : List UInt8)) = false := bne_eq_false_iff_eq.mpr c6
      clear c6
      (first | rw [c6b0] | (simp only [i64_w, i32_w]; rw [c6b0]) | rw [c6b1] | skip)
      have H' := Aside0.mk H
      clear H
      go_wp2
      go_meet
      case rel => exact ⟨_, (true), (by first | rfl | (simp; done) | (simp [*]; done)), H', ⟨by first | omega | exact Nat.le_refl _⟩, ⟨by repeat (first | (with_reducible first | exact HB.out | apply below_alloc | apply pw_below_drewN | apply below_drew1) | exact HB.out)⟩⟩
    · rw [if_neg c6] at H
      have c6b0 : (t101.toList == ([] : List UInt8)) = false := beq_eq_false_iff_ne.mpr c6
      have c6b1 : (t101.toList != ([] : List UInt8)) = true := bne_iff_ne.mpr c6
      (first | rw [c6b0] | (simp only [i64_w, i32_w]; rw [c6b0]) | rw [c6b1] | skip)
      have H' := Aside0.mk H
      clear H
      go_wp2
      go_meet
      case rel => exact ⟨_, ((t102.toList == ([] : List UInt8))), (by first | rfl | (simp; done) | (simp [*]; done)), H', ⟨by first | omega | exact Nat.le_refl _⟩, ⟨by repeat (first | (with_reducible first | exact HB.out | apply below_alloc | apply pw_below_drewN | apply below_drew1) | exact HB.out)⟩⟩
  case rest =>
    clear HC5
    try clear c1
    try clear p2
    try clear c3
    try clear c6
    try clear c6b0
    try clear c6b1
    obtain ⟨kq, x22_4, rfl, HA, HJ4, HB⟩ := hcut
    cases kq with
    | zero => exact absurd HA.out (by simp [laws_FnBasicOne.j0])
    | succ kj4 =>
      have H := HA.out
      clear HA
      simp only [laws_FnBasicOne.j0] at H
      by_cases c7 : x22_4 = true
      · subst c7
        have H1 : (some true) = some r := by rw [if_pos rfl] at H; exact H
        clear H
        have H := H1
        clear H1
        obtain rfl := Option.some.inj H
        go_wp2
        go_ret
        exact ⟨by first | rfl | (simp [errW_none, errW_some] <;> rfl) | (simp [*, errW_none, errW_some] <;> rfl), by repeat (first | (with_reducible first | exact HB.out | apply below_alloc | apply pw_below_drewN | apply below_drew1) | exact HB.out)⟩
      · replace c7 := Bool.eq_false_iff.mpr c7
        subst c7
        have H1 : ((impl_BasicType.f (strOfNums (([a0, a1] : List Int)))).bind fun bt106 => ((impl_BasicType.f bt106.2.1).bind fun bt109 => (if bt106.2.2 = true then (if bt109.2.2 = true then (if bt106.1.toList = t101.toList then (if bt109.1.toList = t102.toList then (some (bt109.2.1.toList == ([] : List UInt8))) else (some false)) else (some false)) else (some false)) else (some false)))) = some r := by rw [if_neg (show ¬ (false = true) by decide)] at H; exact H
        clear H
        have H := H1
        clear H1
        obtain ⟨y103, hy103⟩ : ∃ y_ : List Int, y_ = (([a0, a1] : List Int)) := ⟨_, rfl⟩
        replace H : ((impl_BasicType.f (strOfNums y103)).bind fun bt106 => ((impl_BasicType.f bt106.2.1).bind fun bt109 => (if bt106.2.2 = true then (if bt109.2.2 = true then (if bt106.1.toList = t101.toList then (if bt109.1.toList = t102.toList then (some (bt109.2.1.toList == ([] : List UInt8))) else (some false)) else (some false)) else (some false)) else (some false)))) = some r := by first | (rw [hy103]; with_reducible exact H) | (have H2_ := (Option.bind_some _ _).symm.trans H; rw [hy103]; with_reducible exact H2_) | (have H2_ := (Option.bind_some _ _).symm.trans H; with_reducible exact H2_) | with_reducible exact H | (rw [hy103]; exact H) | exact H
        have Ny103 := Aside0.mk hy103
        clear hy103
        replace H := Option.bind_eq_some_iff.mp H
        obtain ⟨⟨t106, t107, t108⟩, A80, H⟩ := H
        replace H : ((impl_BasicType.f t107).bind fun bt109 => (if t108 = true then (if bt109.2.2 = true then (if t106.toList = t101.toList then (if bt109.1.toList = t102.toList then (some (bt109.2.1.toList == ([] : List UInt8))) else (some false)) else (some false)) else (some false)) else (some false))) = some r := H
        have A8 := Aside0.mk A80
        clear A80
        replace H := Option.bind_eq_some_iff.mp H
        obtain ⟨⟨t109, t110, t111⟩, A90, H⟩ := H
        replace H : (if t108 = true then (if t111 = true then (if t106.toList = t101.toList then (if t109.toList = t102.toList then (some (t110.toList == ([] : List UInt8))) else (some false)) else (some false)) else (some false)) else (some false)) = some r := H
        have A9 := Aside0.mk A90
        clear A90
        by_cases c10 : t108 = true
        · subst c10
          have H1 : (if t111 = true then (if t106.toList = t101.toList then (if t109.toList = t102.toList then (some (t110.toList == ([] : List UInt8))) else (some false)) else (some false)) else (some false)) = some r := by rw [if_pos rfl] at H; exact H
          clear H
          have H := H1
          clear H1
          by_cases c11 : t111 = true
          · subst c11
            have H1 : (if t106.toList = t101.toList then (if t109.toList = t102.toList then (some (t110.toList == ([] : List UInt8))) else (some false)) else (some false)) = some r := by rw [if_pos rfl] at H; exact H
            clear H
            have H := H1
            clear H1
            by_cases c12 : t106.toList = t101.toList
            · rw [if_pos c12] at H
              have c12b0 : (t106.toList == t101.toList) = true := beq_iff_eq.mpr c12
              have c12b1 : (t106.toList != t101.toList) = false := bne_eq_false_iff_eq.mpr c12
              clear c12
              by_cases c13 : t109.toList = t102.toList
              · rw [if_pos c13] at H
                have c13b0 : (t109.toList == t102.toList) = true := beq_iff_eq.mpr c13
                have c13b1 : (t109.toList != t102.toList) = false := bne_eq_false_iff_eq.mpr c13
                clear c13
                obtain rfl := Option.some.inj H
                go_wp2_with (first | ((with_reducible refine gate_dst (N := 26) rfl ?_); refine Kd.R_lit (Kd.int .u8) _ 5 ?hg (N := 26) ?hd (xs := ([a0, a1] : List Int)) (inner := [.int .u8 a0, .int .u8 a1]) (ok := fun _ => True) (okp := fun _ => True) ?hr ?hp (fun _ hk => hk) trivial (Below.refl _ _) (Nat.le_refl _) (by simp) ?_; (case hd => rfl); (case hg => rfl); (case hr => first | (go_simp; done) | (go_simp; rfl)); (case hp => exact (Reps.one (show Kd.M (Kd.int .u8) _ _ _ a0 [.int .u8 a0] from rfl) (Reps.one (show Kd.M (Kd.int .u8) _ _ _ a1 [.int .u8 a1] from rfl) (Reps.none _ _)))); intro v104 w14 ho15 hb hg_ hnew_; clear hg_ hnew_; (first | rw [← Ny103.out] at ho15 | (simp only [Int.reduceToNat] at ho15; rw [← Ny103.out] at ho15)); have n0_ := Aside0.mk (Kd.R_lower ho15 (below_size (by repeat (first | (with_reducible first | exact HB.out | apply below_alloc | apply pw_below_drewN | apply below_drew1) | exact HB.out)))); have n1_ := Aside0.mk (below_step (by repeat (first | (with_reducible first | exact HB.out | apply below_alloc | apply pw_below_drewN | apply below_drew1) | exact HB.out)) hb); clear HB; have HO105 := n0_; have HB := n1_; clear n0_ n1_; clear hb ho15; have hcv16 := own_string (P := Tryd.prog) Tryd.underlying25 Tryd.underlying5 Tryd.underlying9 (Kd.own_of_R HO105.out)) | ((with_reducible refine gate_callee (f := 12) rfl ?_); refine goesL_ (some 28) rfl rfl Tryd.func12 (by kernel_rfl) rfl #[.string (strOfNums y103)] rfl (by (try simp only [List.map_toArray, List.map_cons, List.map_nil]); first | done | rfl | (simp only [List.length_drop, List.length_take]; rfl)) ?_; (with_reducible refine (impl_BasicType.calls (strOfNums y103) t106 t107 true _ ?side1 A8.out).mono ?_); (case side1 => exact Stays.below hT_ (by first | (repeat (first | (with_reducible first | exact HB.out | apply below_alloc | apply pw_below_drewN | apply below_drew1) | exact HB.out)) | (repeat (first | exact Below.refl _ _ | apply below_drew1 | apply pw_below_drewN)))); rintro e w17 ⟨rfl, hb⟩; refine ⟨_, rfl, ?_⟩; have n0_ := Aside0.mk (Kd.R_below (by (with_reducible repeat (first | apply Kd.R_alloc | apply Kd.R_drewN | apply Kd.R_drew)); exact HO105.out) hb); have n1_ := Aside0.mk (below_step (by repeat (first | (with_reducible first | exact HB.out | apply below_alloc | apply pw_below_drewN | apply below_drew1) | exact HB.out)) hb); clear HO105; clear HB; have HO105 := n0_; have HB := n1_; clear n0_ n1_; (try clear hb); (try clear hb2); (try clear hk); (try clear hi)) | ((with_reducible refine gate_callee (f := 12) rfl ?_); refine goesL_ (some 34) rfl rfl Tryd.func12 (by kernel_rfl) rfl #[.string t107] rfl (by (try simp only [List.map_toArray, List.map_cons, List.map_nil]); first | done | rfl | (simp only [List.length_drop, List.length_take]; rfl)) ?_; (with_reducible refine (impl_BasicType.calls t107 t109 t110 true _ ?side1 A9.out).mono ?_); (case side1 => exact Stays.below hT_ (by first | (repeat (first | (with_reducible first | exact HB.out | apply below_alloc | apply pw_below_drewN | apply below_drew1) | exact HB.out)) | (repeat (first | exact Below.refl _ _ | apply below_drew1 | apply pw_below_drewN)))); rintro e w18 ⟨rfl, hb⟩; refine ⟨_, rfl, ?_⟩; have n0_ := Aside0.mk (Kd.R_below (by (with_reducible repeat (first | apply Kd.R_alloc | apply Kd.R_drewN | apply Kd.R_drew)); exact HO105.out) hb); have n1_ := Aside0.mk (below_step (by repeat (first | (with_reducible first | exact HB.out | apply below_alloc | apply pw_below_drewN | apply below_drew1) | exact HB.out)) hb); clear HO105; clear HB; have HO105 := n0_; have HB := n1_; clear n0_ n1_; (try clear hb); (try clear hb2); (try clear hk); (try clear hi)))
                go_ret
                exact ⟨by first | rfl | (simp [errW_none, errW_some] <;> rfl) | (simp [*, errW_none, errW_some] <;> rfl), by repeat (first | (with_reducible first | exact HB.out | apply below_alloc | apply pw_below_drewN | apply below_drew1) | exact HB.out)⟩
              · rw [if_neg c13] at H
                have c13b0 : (t109.toList == t102.toList) = false := beq_eq_false_iff_ne.mpr c13
                have c13b1 : (t109.toList != t102.toList) = true := bne_iff_ne.mpr c13
                obtain rfl := Option.some.inj H
                go_wp2_with (first | ((with_reducible refine gate_dst (N := 26) rfl ?_); refine Kd.R_lit (Kd.int .u8) _ 5 ?hg (N := 26) ?hd (xs := ([a0, a1] : List Int)) (inner := [.int .u8 a0, .int .u8 a1]) (ok := fun _ => True) (okp := fun _ => True) ?hr ?hp (fun _ hk => hk) trivial (Below.refl _ _) (Nat.le_refl _) (by simp) ?_; (case hd => rfl); (case hg => rfl); (case hr => first | (go_simp; done) | (go_simp; rfl)); (case hp => exact (Reps.one (show Kd.M (Kd.int .u8) _ _ _ a0 [.int .u8 a0] from rfl) (Reps.one (show Kd.M (Kd.int .u8) _ _ _ a1 [.int .u8 a1] from rfl) (Reps.none _ _)))); intro v104 w19 ho20 hb hg_ hnew_; clear hg_ hnew_; (first | rw [← Ny103.out] at ho20 | (simp only [Int.reduceToNat] at ho20; rw [← Ny103.out] at ho20)); have n0_ := Aside0.mk (Kd.R_lower ho20 (below_size (by repeat (first | (with_reducible first | exact HB.out | apply below_alloc | apply pw_below_drewN | apply below_drew1) | exact HB.out)))); have n1_ := Aside0.mk (below_step (by repeat (first | (with_reducible first | exact HB.out | apply below_alloc | apply pw_below_drewN | apply below_drew1) | exact HB.out)) hb); clear HB; have HO105 := n0_; have HB := n1_; clear n0_ n1_; clear hb ho20; have hcv21 := own_string (P := Tryd.prog) Tryd.underlying25 Tryd.underlying5 Tryd.underlying9 (Kd.own_of_R HO105.out)) | ((with_reducible refine gate_callee (f := 12) rfl ?_); refine goesL_ (some 28) rfl rfl Tryd.func12 (by kernel_rfl) rfl #[.string (strOfNums y103)] rfl (by (try simp only [List.map_toArray, List.map_cons, List.map_nil]); first | done | rfl | (simp only [List.length_drop, List.length_take]; rfl)) ?_; (with_reducible refine (impl_BasicType.calls (strOfNums y103) t106 t107 true _ ?side1 A8.out).mono ?_); (case side1 => exact Stays.below hT_ (by first | (repeat (first | (with_reducible first | exact HB.out | apply below_alloc | apply pw_below_drewN | apply below_drew1) | exact HB.out)) | (repeat (first | exact Below.refl _ _ | apply below_drew1 | apply pw_below_drewN)))); rintro e w22 ⟨rfl, hb⟩; refine ⟨_, rfl, ?_⟩; have n0_ := Aside0.mk (Kd.R_below (by (with_reducible repeat (first | apply Kd.R_alloc | apply Kd.R_drewN | apply Kd.R_drew)); exact HO105.out) hb); have n1_ := Aside0.mk (below_step (by repeat (first | (with_reducible first | exact HB.out | apply below_alloc | apply pw_below_drewN | apply below_drew1) | exact HB.out)) hb); clear HO105; clear HB; have HO105 := n0_; have HB := n1_; clear n0_ n1_; (try clear hb); (try clear hb2); (try clear hk); (try clear hi)) | ((with_reducible refine gate_callee (f := 12) rfl ?_); refine goesL_ (some 34) rfl rfl Tryd.func12 (by kernel_rfl) rfl #[.string t107] rfl (by (try simp only [List.map_toArray, List.map_cons, List.map_nil]); first | done | rfl | (simp only [List.length_drop, List.length_take]; rfl)) ?_; (with_reducible refine (impl_BasicType.calls t107 t109 t110 true _ ?side1 A9.out).mono ?_); (case side1 => exact Stays.below hT_ (by first | (repeat (first | (with_reducible first | exact HB.out | apply below_alloc | apply pw_below_drewN | apply below_drew1) | exact HB.out)) | (repeat (first | exact Below.refl _ _ | apply below_drew1 | apply pw_below_drewN)))); rintro e w23 ⟨rfl, hb⟩; refine ⟨_, rfl, ?_⟩; have n0_ := Aside0.mk (Kd.R_below (by (with_reducible repeat (first | apply Kd.R_alloc | apply Kd.R_drewN | apply Kd.R_drew)); exact HO105.out) hb); have n1_ := Aside0.mk (below_step (by repeat (first | (with_reducible first | exact HB.out | apply below_alloc | apply pw_below_drewN | apply below_drew1) | exact HB.out)) hb); clear HO105; clear HB; have HO105 := n0_; have HB := n1_; clear n0_ n1_; (try clear hb); (try clear hb2); (try clear hk); (try clear hi)))
                go_ret
                exact ⟨by first | rfl | (simp [errW_none, errW_some] <;> rfl) | (simp [*, errW_none, errW_some] <;> rfl), by repeat (first | (with_reducible first | exact HB.out | apply below_alloc | apply pw_below_drewN | apply below_drew1) | exact HB.out)⟩
            · rw [if_neg c12] at H
              have c12b0 : (t106.toList == t101.toList) = false := beq_eq_false_iff_ne.mpr c12
              have c12b1 : (t106.toList != t101.toList) = true := bne_iff_ne.mpr c12
              obtain rfl := Option.some.inj H
              go_wp2_with (first | ((with_reducible refine gate_dst (N := 26) rfl ?_); refine Kd.R_lit (Kd.int .u8) _ 5 ?hg (N := 26) ?hd (xs := ([a0, a1] : List Int)) (inner := [.int .u8 a0, .int .u8 a1]) (ok := fun _ => True) (okp := fun _ => True) ?hr ?hp (fun _ hk => hk) trivial (Below.refl _ _) (Nat.le_refl _) (by simp) ?_; (case hd => rfl); (case hg => rfl); (case hr => first | (go_simp; done) | (go_simp; rfl)); (case hp => exact (Reps.one (show Kd.M (Kd.int .u8) _ _ _ a0 [.int .u8 a0] from rfl) (Reps.one (show Kd.M (Kd.int .u8) _ _ _ a1 [.int .u8 a1] from rfl) (Reps.none _ _)))); intro v104 w24 ho25 hb hg_ hnew_; clear hg_ hnew_; (first | rw [← Ny103.out] at ho25 | (simp only [Int.reduceToNat] at ho25; rw [← Ny103.out] at ho25)); have n0_ := Aside0.mk (Kd.R_lower ho25 (below_size (by repeat (first | (with_reducible first | exact HB.out | apply below_alloc | apply pw_below_drewN | apply below_drew1) | exact HB.out)))); have n1_ := Aside0.mk (below_step (by repeat (first | (with_reducible first | exact HB.out | apply below_alloc | apply pw_below_drewN | apply below_drew1) | exact HB.out)) hb); clear HB; have HO105 := n0_; have HB := n1_; clear n0_ n1_; clear hb ho25; have hcv26 := own_string (P := Tryd.prog) Tryd.underlying25 Tryd.underlying5 Tryd.underlying9 (Kd.own_of_R HO105.out)) | ((with_reducible refine gate_callee (f := 12) rfl ?_); refine goesL_ (some 28) rfl rfl Tryd.func12 (by kernel_rfl) rfl #[.string (strOfNums y103)] rfl (by (try simp only [List.map_toArray, List.map_cons, List.map_nil]); first | done | rfl | (simp only [List.length_drop, List.length_take]; rfl)) ?_; (with_reducible refine (impl_BasicType.calls (strOfNums y103) t106 t107 true _ ?side1 A8.out).mono ?_); (case side1 => exact Stays.below hT_ (by first | (repeat (first | (with_reducible first | exact HB.out | apply below_alloc | apply pw_below_drewN | apply below_drew1) | exact HB.out)) | (repeat (first | exact Below.refl _ _ | apply below_drew1 | apply pw_below_drewN)))); rintro e w27 ⟨rfl, hb⟩; refine ⟨_, rfl, ?_⟩; have n0_ := Aside0.mk (Kd.R_below (by (with_reducible repeat (first | apply Kd.R_alloc | apply Kd.R_drewN | apply Kd.R_drew)); exact HO105.out) hb); have n1_ := Aside0.mk (below_step (by repeat (first | (with_reducible first | exact HB.out | apply below_alloc | apply pw_below_drewN | apply below_drew1) | exact HB.out)) hb); clear HO105; clear HB; have HO105 := n0_; have HB := n1_; clear n0_ n1_; (try clear hb); (try clear hb2); (try clear hk); (try clear hi)) | ((with_reducible refine gate_callee (f := 12) rfl ?_); refine goesL_ (some 34) rfl rfl Tryd.func12 (by kernel_rfl) rfl #[.string t107] rfl (by (try simp only [List.map_toArray, List.map_cons, List.map_nil]); first | done | rfl | (simp only [List.length_drop, List.length_take]; rfl)) ?_; (with_reducible refine (impl_BasicType.calls t107 t109 t110 true _ ?side1 A9.out).mono ?_); (case side1 => exact Stays.below hT_ (by first | (repeat (first | (with_reducible first | exact HB.out | apply below_alloc | apply pw_below_drewN | apply below_drew1) | exact HB.out)) | (repeat (first | exact Below.refl _ _ | apply below_drew1 | apply pw_below_drewN)))); rintro e w28 ⟨rfl, hb⟩; refine ⟨_, rfl, ?_⟩; have n0_ := Aside0.mk (Kd.R_below (by (with_reducible repeat (first | apply Kd.R_alloc | apply Kd.R_drewN | apply Kd.R_drew)); exact HO105.out) hb); have n1_ := Aside0.mk (below_step (by repeat (first | (with_reducible first | exact HB.out | apply below_alloc | apply pw_below_drewN | apply below_drew1) | exact HB.out)) hb); clear HO105; clear HB; have HO105 := n0_; have HB := n1_; clear n0_ n1_; (try clear hb); (try clear hb2); (try clear hk); (try clear hi)))
              go_ret
              exact ⟨by first | rfl | (simp [errW_none, errW_some] <;> rfl) | (simp [*, errW_none, errW_some] <;> rfl), by repeat (first | (with_reducible first | exact HB.out | apply below_alloc | apply pw_below_drewN | apply below_drew1) | exact HB.out)⟩
          · replace c11 := Bool.eq_false_iff.mpr c11
            subst c11
            have H1 : (some false) = some r := by rw [if_neg (show ¬ (false = true) by decide)] at H; exact H
            clear H
            have H := H1
            clear H1
            obtain rfl := Option.some.inj H
            go_wp2_with (first | ((with_reducible refine gate_dst (N := 26) rfl ?_); refine Kd.R_lit (Kd.int .u8) _ 5 ?hg (N := 26) ?hd (xs := ([a0, a1] : List Int)) (inner := [.int .u8 a0, .int .u8 a1]) (ok := fun _ => True) (okp := fun _ => True) ?hr ?hp (fun _ hk => hk) trivial (Below.refl _ _) (Nat.le_refl _) (by simp) ?_; (case hd => rfl); (case hg => rfl); (case hr => first | (go_simp; done) | (go_simp; rfl)); (case hp => exact (Reps.one (show Kd.M (Kd.int .u8) _ _ _ a0 [.int .u8 a0] from rfl) (Reps.one (show Kd.M (Kd.int .u8) _ _ _ a1 [.int .u8 a1] from rfl) (Reps.none _ _)))); intro v104 w29 ho30 hb hg_ hnew_; clear hg_ hnew_; (first | rw [← Ny103.out] at ho30 | (simp only [Int.reduceToNat] at ho30; rw [← Ny103.out] at ho30)); have n0_ := Aside0.mk (Kd.R_lower ho30 (below_size (by repeat (first | (with_reducible first | exact HB.out | apply below_alloc | apply pw_below_drewN | apply below_drew1) | exact HB.out)))); have n1_ := Aside0.mk (below_step (by repeat (first | (with_reducible first | exact HB.out | apply below_alloc | apply pw_below_drewN | apply below_drew1) | exact HB.out)) hb); clear HB; have HO105 := n0_; have HB := n1_; clear n0_ n1_; clear hb ho30; have hcv31 := own_string (P := Tryd.prog) Tryd.underlying25 Tryd.underlying5 Tryd.underlying9 (Kd.own_of_R HO105.out)) | ((with_reducible refine gate_callee (f := 12) rfl ?_); refine goesL_ (some 28) rfl rfl Tryd.func12 (by kernel_rfl) rfl #[.string (strOfNums y103)] rfl (by (try simp only [List.map_toArray, List.map_cons, List.map_nil]); first | done | rfl | (simp only [List.length_drop, List.length_take]; rfl)) ?_; (with_reducible refine (impl_BasicType.calls (strOfNums y103) t106 t107 true _ ?side1 A8.out).mono ?_); (case side1 => exact Stays.below hT_ (by first | (repeat (first | (with_reducible first | exact HB.out | apply below_alloc | apply pw_below_drewN | apply below_drew1) | exact HB.out)) | (repeat (first | exact Below.refl _ _ | apply below_drew1 | apply pw_below_drewN)))); rintro e w32 ⟨rfl, hb⟩; refine ⟨_, rfl, ?_⟩; have n0_ := Aside0.mk (Kd.R_below (by (with_reducible repeat (first | apply Kd.R_alloc | apply Kd.R_drewN | apply Kd.R_drew)); exact HO105.out) hb); have n1_ := Aside0.mk (below_step (by repeat (first | (with_reducible first | exact HB.out | apply below_alloc | apply pw_below_drewN | apply below_drew1) | exact HB.out)) hb); clear HO105; clear HB; have HO105 := n0_; have HB := n1_; clear n0_ n1_; (try clear hb); (try clear hb2); (try clear hk); (try clear hi)) | ((with_reducible refine gate_callee (f := 12) rfl ?_); refine goesL_ (some 34) rfl rfl Tryd.func12 (by kernel_rfl) rfl #[.string t107] rfl (by (try simp only [List.map_toArray, List.map_cons, List.map_nil]); first | done | rfl | (simp only [List.length_drop, List.length_take]; rfl)) ?_; (with_reducible refine (impl_BasicType.calls t107 t109 t110 false _ ?side1 A9.out).mono ?_); (case side1 => exact Stays.below hT_ (by first | (repeat (first | (with_reducible first | exact HB.out | apply below_alloc | apply pw_below_drewN | apply below_drew1) | exact HB.out)) | (repeat (first | exact Below.refl _ _ | apply below_drew1 | apply pw_below_drewN)))); rintro e w33 ⟨rfl, hb⟩; refine ⟨_, rfl, ?_⟩; have n0_ := Aside0.mk (Kd.R_below (by (with_reducible repeat (first | apply Kd.R_alloc | apply Kd.R_drewN | apply Kd.R_drew)); exact HO105.out) hb); have n1_ := Aside0.mk (below_step (by repeat (first | (with_reducible first | exact HB.out | apply below_alloc | apply pw_below_drewN | apply below_drew1) | exact HB.out)) hb); clear HO105; clear HB; have HO105 := n0_; have HB := n1_; clear n0_ n1_; (try clear hb); (try clear hb2); (try clear hk); (try clear hi)))
            go_ret
            exact ⟨by first | rfl | (simp [errW_none, errW_some] <;> rfl) | (simp [*, errW_none, errW_some] <;> rfl), by repeat (first | (with_reducible first | exact HB.out | apply below_alloc | apply pw_below_drewN | apply below_drew1) | exact HB.out)⟩
        · replace c10 := Bool.eq_false_iff.mpr c10
          subst c10
          have H1 : (some false) = some r := by rw [if_neg (show ¬ (false = true) by decide)] at H; exact H
          clear H
          have H := H1
          clear H1
          obtain rfl := Option.some.inj H
          go_wp2_with (first | ((with_reducible refine gate_dst (N := 26) rfl ?_); refine Kd.R_lit (Kd.int .u8) _ 5 ?hg (N := 26) ?hd (xs := ([a0, a1] : List Int)) (inner := [.int .u8 a0, .int .u8 a1]) (ok := fun _ => True) (okp := fun _ => True) ?hr ?hp (fun _ hk => hk) trivial (Below.refl _ _) (Nat.le_refl _) (by simp) ?_; (case hd => rfl); (case hg => rfl); (case hr => first | (go_simp; done) | (go_simp; rfl)); (case hp => exact (Reps.one (show Kd.M (Kd.int .u8) _ _ _ a0 [.int .u8 a0] from rfl) (Reps.one (show Kd.M (Kd.int .u8) _ _ _ a1 [.int .u8 a1] from rfl) (Reps.none _ _)))); intro v104 w34 ho35 hb hg_ hnew_; clear hg_ hnew_; (first | rw [← Ny103.out] at ho35 | (simp only [Int.reduceToNat] at ho35; rw [← Ny103.out] at ho35)); have n0_ := Aside0.mk (Kd.R_lower ho35 (below_size (by repeat (first | (with_reducible first | exact HB.out | apply below_alloc | apply pw_below_drewN | apply below_drew1) | exact HB.out)))); have n1_ := Aside0.mk (below_step (by repeat (first | (with_reducible first | exact HB.out | apply below_alloc | apply pw_below_drewN | apply below_drew1) | exact HB.out)) hb); clear HB; have HO105 := n0_; have HB := n1_; clear n0_ n1_; clear hb ho35; have hcv36 := own_string (P := Tryd.prog) Tryd.underlying25 Tryd.underlying5 Tryd.underlying9 (Kd.own_of_R HO105.out)) | ((with_reducible refine gate_callee (f := 12) rfl ?_); refine goesL_ (some 28) rfl rfl Tryd.func12 (by kernel_rfl) rfl #[.string (strOfNums y103)] rfl (by (try simp only [List.map_toArray, List.map_cons, List.map_nil]); first | done | rfl | (simp only [List.length_drop, List.length_take]; rfl)) ?_; (with_reducible refine (impl_BasicType.calls (strOfNums y103) t106 t107 false _ ?side1 A8.out).mono ?_); (case side1 => exact Stays.below hT_ (by first | (repeat (first | (with_reducible first | exact HB.out | apply below_alloc | apply pw_below_drewN | apply below_drew1) | exact HB.out)) | (repeat (first | exact Below.refl _ _ | apply below_drew1 | apply pw_below_drewN)))); rintro e w37 ⟨rfl, hb⟩; refine ⟨_, rfl, ?_⟩; have n0_ := Aside0.mk (Kd.R_below (by (with_reducible repeat (first | apply Kd.R_alloc | apply Kd.R_drewN | apply Kd.R_drew)); exact HO105.out) hb); have n1_ := Aside0.mk (below_step (by repeat (first | (with_reducible first | exact HB.out | apply below_alloc | apply pw_below_drewN | apply below_drew1) | exact HB.out)) hb); clear HO105; clear HB; have HO105 := n0_; have HB := n1_; clear n0_ n1_; (try clear hb); (try clear hb2); (try clear hk); (try clear hi)) | ((with_reducible refine gate_callee (f := 12) rfl ?_); refine goesL_ (some 34) rfl rfl Tryd.func12 (by kernel_rfl) rfl #[.string t107] rfl (by (try simp only [List.map_toArray, List.map_cons, List.map_nil]); first | done | rfl | (simp only [List.length_drop, List.length_take]; rfl)) ?_; (with_reducible refine (impl_BasicType.calls t107 t109 t110 t111 _ ?side1 A9.out).mono ?_); (case side1 => exact Stays.below hT_ (by first | (repeat (first | (with_reducible first | exact HB.out | apply below_alloc | apply pw_below_drewN | apply below_drew1) | exact HB.out)) | (repeat (first | exact Below.refl _ _ | apply below_drew1 | apply pw_below_drewN)))); rintro e w38 ⟨rfl, hb⟩; refine ⟨_, rfl, ?_⟩; have n0_ := Aside0.mk (Kd.R_below (by (with_reducible repeat (first | apply Kd.R_alloc | apply Kd.R_drewN | apply Kd.R_drew)); exact HO105.out) hb); have n1_ := Aside0.mk (below_step (by repeat (first | (with_reducible first | exact HB.out | apply below_alloc | apply pw_below_drewN | apply below_drew1) | exact HB.out)) hb); clear HO105; clear HB; have HO105 := n0_; have HB := n1_; clear n0_ n1_; (try clear hb); (try clear hb2); (try clear hk); (try clear hi)))
          go_ret
          exact ⟨by first | rfl | (simp [errW_none, errW_some] <;> rfl) | (simp [*, errW_none, errW_some] <;> rfl), by repeat (first | (with_reducible first | exact HB.out | apply below_alloc | apply pw_below_drewN | apply below_drew1) | exact HB.out)⟩

/-- THE ONE PURE STATEMENT of laws_FnBasicOne: yours. -/
def laws_FnBasicOne.Pure : Prop := ∀ (a0 : Int) (a1 : Int), (Lit.int .u8 a0).wf = true → (Lit.int .u8 a1).wf = true → ∃ k, laws_FnBasicOne.f k a0 a1 = some true
theorem laws_FnBasicOne.walk (P : laws_FnBasicOne.Pure) (a0 : Int) (a1 : Int) (w : World) (hT_ : MapIs w) (w0 : (Lit.int .u8 a0).wf = true) (w1 : (Lit.int .u8 a1).wf = true) :
    Calls Tryd.prog 3 #[.int .u8 a0, .int .u8 a1] w fun e w' => e = .returned (.bool true) ∧ Below w.heap.size w w' := by
  obtain ⟨k, h⟩ := P a0 a1 w0 w1
  refine (laws_FnBasicOne.calls k a0 a1 true w hT_ h).mono ?_
  rintro e w' ⟨rfl, hd⟩
  exact ⟨rfl, hd⟩

end Go.Proofs.YtfblehpiecialaaDoor.PFnBasicOne
