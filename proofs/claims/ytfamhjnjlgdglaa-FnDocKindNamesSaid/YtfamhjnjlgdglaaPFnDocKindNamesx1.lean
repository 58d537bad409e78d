-- PRINTED BY print.sh 35421559b90ae4d0a3588c463048766b98c2df88dd9212a6774a882060cdf62d: not written by this session
import Derived.Test.YtfamhjnjlgdglaaPFnDocKindNamesx0
namespace Go.Proofs.Ytfamhjnjlgdglaa.PFnDocKindNames
open Go.RowKit Go.Proofs.YtfamhjnjlgdglaaW.PrintWords Go.Proofs.YtfamhjnjlgdglaaW.PrintLast Go.Proofs.YtfamhjnjlgdglaaW.PrintMore
attribute [local go_sem] max2_int min2_int max_two min_two max_three min_three max_four min_four   -- for this text's walks alone
set_option linter.unusedVariables false
set_option linter.unusedSimpArgs false

/-! ### bsoncore_Type_String: function 35 -/
def bsoncore_Type_String.f (a0 : Int) : Option (ByteArray) := if a0 = 1 then (some (⟨#[100, 111, 117, 98, 108, 101]⟩ : ByteArray)) else (if a0 = 2 then (some (⟨#[115, 116, 114, 105, 110, 103]⟩ : ByteArray)) else (if a0 = 3 then (some (⟨#[101, 109, 98, 101, 100, 100, 101, 100, 32, 100, 111, 99, 117, 109, 101, 110, 116]⟩ : ByteArray)) else (if a0 = 4 then (some (⟨#[97, 114, 114, 97, 121]⟩ : ByteArray)) else (if a0 = 5 then (some (⟨#[98, 105, 110, 97, 114, 121]⟩ : ByteArray)) else (if a0 = 6 then (some (⟨#[117, 110, 100, 101, 102, 105, 110, 101, 100]⟩ : ByteArray)) else (if a0 = 7 then (some (⟨#[111, 98, 106, 101, 99, 116, 73, 68]⟩ : ByteArray)) else (if a0 = 8 then (some (⟨#[98, 111, 111, 108, 101, 97, 110]⟩ : ByteArray)) else (if a0 = 9 then (some (⟨#[85, 84, 67, 32, 100, 97, 116, 101, 116, 105, 109, 101]⟩ : ByteArray)) else (if a0 = 10 then (some (⟨#[110, 117, 108, 108]⟩ : ByteArray)) else (if a0 = 11 then (some (⟨#[114, 101, 103, 101, 120]⟩ : ByteArray)) else (if a0 = 12 then (some (⟨#[100, 98, 80, 111, 105, 110, 116, 101, 114]⟩ : ByteArray)) else (if a0 = 13 then (some (⟨#[106, 97, 118, 97, 115, 99, 114, 105, 112, 116]⟩ : ByteArray)) else (if a0 = 14 then (some (⟨#[115, 121, 109, 98, 111, 108]⟩ : ByteArray)) else (if a0 = 15 then (some (⟨#[99, 111, 100, 101, 32, 119, 105, 116, 104, 32, 115, 99, 111, 112, 101]⟩ : ByteArray)) else (if a0 = 16 then (some (⟨#[51, 50, 45, 98, 105, 116, 32, 105, 110, 116, 101, 103, 101, 114]⟩ : ByteArray)) else (if a0 = 17 then (some (⟨#[116, 105, 109, 101, 115, 116, 97, 109, 112]⟩ : ByteArray)) else (if a0 = 18 then (some (⟨#[54, 52, 45, 98, 105, 116, 32, 105, 110, 116, 101, 103, 101, 114]⟩ : ByteArray)) else (if a0 = 19 then (some (⟨#[49, 50, 56, 45, 98, 105, 116, 32, 100, 101, 99, 105, 109, 97, 108]⟩ : ByteArray)) else (if a0 = 127 then (some (⟨#[109, 97, 120, 32, 107, 101, 121]⟩ : ByteArray)) else (if a0 = 255 then (some (⟨#[109, 105, 110, 32, 107, 101, 121]⟩ : ByteArray)) else (some (⟨#[105, 110, 118, 97, 108, 105, 100]⟩ : ByteArray))))))))))))))))))))))
set_option maxHeartbeats 8000000 in
set_option maxRecDepth 100000 in
theorem bsoncore_Type_String.calls (a0 : Int) (r : ByteArray) (w : World) (h : bsoncore_Type_String.f a0 = some r) :
    Calls Try.prog 35 #[.int .u8 a0] w fun e w' => e = .returned (.string r) ∧ Drawn0 w w' := by
  have H : (if a0 = 1 then (some (⟨#[100, 111, 117, 98, 108, 101]⟩ : ByteArray)) else (if a0 = 2 then (some (⟨#[115, 116, 114, 105, 110, 103]⟩ : ByteArray)) else (if a0 = 3 then (some (⟨#[101, 109, 98, 101, 100, 100, 101, 100, 32, 100, 111, 99, 117, 109, 101, 110, 116]⟩ : ByteArray)) else (if a0 = 4 then (some (⟨#[97, 114, 114, 97, 121]⟩ : ByteArray)) else (if a0 = 5 then (some (⟨#[98, 105, 110, 97, 114, 121]⟩ : ByteArray)) else (if a0 = 6 then (some (⟨#[117, 110, 100, 101, 102, 105, 110, 101, 100]⟩ : ByteArray)) else (if a0 = 7 then (some (⟨#[111, 98, 106, 101, 99, 116, 73, 68]⟩ : ByteArray)) else (if a0 = 8 then (some (⟨#[98, 111, 111, 108, 101, 97, 110]⟩ : ByteArray)) else (if a0 = 9 then (some (⟨#[85, 84, 67, 32, 100, 97, 116, 101, 116, 105, 109, 101]⟩ : ByteArray)) else (if a0 = 10 then (some (⟨#[110, 117, 108, 108]⟩ : ByteArray)) else (if a0 = 11 then (some (⟨#[114, 101, 103, 101, 120]⟩ : ByteArray)) else (if a0 = 12 then (some (⟨#[100, 98, 80, 111, 105, 110, 116, 101, 114]⟩ : ByteArray)) else (if a0 = 13 then (some (⟨#[106, 97, 118, 97, 115, 99, 114, 105, 112, 116]⟩ : ByteArray)) else (if a0 = 14 then (some (⟨#[115, 121, 109, 98, 111, 108]⟩ : ByteArray)) else (if a0 = 15 then (some (⟨#[99, 111, 100, 101, 32, 119, 105, 116, 104, 32, 115, 99, 111, 112, 101]⟩ : ByteArray)) else (if a0 = 16 then (some (⟨#[51, 50, 45, 98, 105, 116, 32, 105, 110, 116, 101, 103, 101, 114]⟩ : ByteArray)) else (if a0 = 17 then (some (⟨#[116, 105, 109, 101, 115, 116, 97, 109, 112]⟩ : ByteArray)) else (if a0 = 18 then (some (⟨#[54, 52, 45, 98, 105, 116, 32, 105, 110, 116, 101, 103, 101, 114]⟩ : ByteArray)) else (if a0 = 19 then (some (⟨#[49, 50, 56, 45, 98, 105, 116, 32, 100, 101, 99, 105, 109, 97, 108]⟩ : ByteArray)) else (if a0 = 127 then (some (⟨#[109, 97, 120, 32, 107, 101, 121]⟩ : ByteArray)) else (if a0 = 255 then (some (⟨#[109, 105, 110, 32, 107, 101, 121]⟩ : ByteArray)) else (some (⟨#[105, 110, 118, 97, 108, 105, 100]⟩ : ByteArray))))))))))))))))))))))) = some r := h
  clear h
  by_cases c2 : a0 = 1
  · rw [if_pos c2] at H
    have c2b0 : (a0 == 1) = true := beq_iff_eq.mpr c2
    have c2b1 : (a0 != 1) = false := bne_eq_false_iff_eq.mpr c2
    clear c2
    obtain rfl := Option.some.inj H
    go_enter Try.func35, Try.ntmps35
    go_wp2
    go_ret
    exact ⟨by first | rfl | (simp; done) | (simp [*]; done), by repeat (first | exact Drawn0.refl _ | apply Drawn0.step)⟩
  · rw [if_neg c2] at H
    have c2b0 : (a0 == 1) = false := beq_eq_false_iff_ne.mpr c2
    have c2b1 : (a0 != 1) = true := bne_iff_ne.mpr c2
    by_cases c3 : a0 = 2
    · rw [if_pos c3] at H
      have c3b0 : (a0 == 2) = true := beq_iff_eq.mpr c3
      have c3b1 : (a0 != 2) = false := bne_eq_false_iff_eq.mpr c3
      clear c3
      obtain rfl := Option.some.inj H
      go_enter Try.func35, Try.ntmps35
      go_wp2
      go_ret
      exact ⟨by first | rfl | (simp; done) | (simp [*]; done), by repeat (first | exact Drawn0.refl _ | apply Drawn0.step)⟩
    · rw [if_neg c3] at H
      have c3b0 : (a0 == 2) = false := beq_eq_false_iff_ne.mpr c3
      have c3b1 : (a0 != 2) = true := bne_iff_ne.mpr c3
      by_cases c4 : a0 = 3
      · rw [if_pos c4] at H
        have c4b0 : (a0 == 3) = true := beq_iff_eq.mpr c4
        have c4b1 : (a0 != 3) = false := bne_eq_false_iff_eq.mpr c4
        clear c4
        obtain rfl := Option.some.inj H
        go_enter Try.func35, Try.ntmps35
        go_wp2
        go_ret
        exact ⟨by first | rfl | (simp; done) | (simp [*]; done), by repeat (first | exact Drawn0.refl _ | apply Drawn0.step)⟩
      · rw [if_neg c4] at H
        have c4b0 : (a0 == 3) = false := beq_eq_false_iff_ne.mpr c4
        have c4b1 : (a0 != 3) = true := bne_iff_ne.mpr c4
        by_cases c5 : a0 = 4
        · rw [if_pos c5] at H
          have c5b0 : (a0 == 4) = true := beq_iff_eq.mpr c5
          have c5b1 : (a0 != 4) = false := bne_eq_false_iff_eq.mpr c5
          clear c5
          obtain rfl := Option.some.inj H
          go_enter Try.func35, Try.ntmps35
          go_wp2
          go_ret
          exact ⟨by first | rfl | (simp; done) | (simp [*]; done), by repeat (first | exact Drawn0.refl _ | apply Drawn0.step)⟩
        · rw [if_neg c5] at H
          have c5b0 : (a0 == 4) = false := beq_eq_false_iff_ne.mpr c5
          have c5b1 : (a0 != 4) = true := bne_iff_ne.mpr c5
          by_cases c6 : a0 = 5
          · rw [if_pos c6] at H
            have c6b0 : (a0 == 5) = true := beq_iff_eq.mpr c6
            have c6b1 : (a0 != 5) = false := bne_eq_false_iff_eq.mpr c6
            clear c6
            obtain rfl := Option.some.inj H
            go_enter Try.func35, Try.ntmps35
            go_wp2
            go_ret
            exact ⟨by first | rfl | (simp; done) | (simp [*]; done), by repeat (first | exact Drawn0.refl _ | apply Drawn0.step)⟩
          · rw [if_neg c6] at H
            have c6b0 : (a0 == 5) = false := beq_eq_false_iff_ne.mpr c6
            have c6b1 : (a0 != 5) = true := bne_iff_ne.mpr c6
            by_cases c7 : a0 = 6
            · rw [if_pos c7] at H
              have c7b0 : (a0 == 6) = true := beq_iff_eq.mpr c7
              have c7b1 : (a0 != 6) = false := bne_eq_false_iff_eq.mpr c7
              clear c7
              obtain rfl := Option.some.inj H
              go_enter Try.func35, Try.ntmps35
              go_wp2
              go_ret
              exact ⟨by first | rfl | (simp; done) | (simp [*]; done), by repeat (first | exact Drawn0.refl _ | apply Drawn0.step)⟩
            · rw [if_neg c7] at H
              have c7b0 : (a0 == 6) = false := beq_eq_false_iff_ne.mpr c7
              have c7b1 : (a0 != 6) = true := bne_iff_ne.mpr c7
              by_cases c8 : a0 = 7
              · rw [if_pos c8] at H
                have c8b0 : (a0 == 7) = true := beq_iff_eq.mpr c8
                have c8b1 : (a0 != 7) = false := bne_eq_false_iff_eq.mpr c8
                clear c8
                obtain rfl := Option.some.inj H
                go_enter Try.func35, Try.ntmps35
                go_wp2
                go_ret
                exact ⟨by first | rfl | (simp; done) | (simp [*]; done), by repeat (first | exact Drawn0.refl _ | apply Drawn0.step)⟩
              · rw [if_neg c8] at H
                have c8b0 : (a0 == 7) = false := beq_eq_false_iff_ne.mpr c8
                have c8b1 : (a0 != 7) = true := bne_iff_ne.mpr c8
                by_cases c9 : a0 = 8
                · rw [if_pos c9] at H
                  have c9b0 : (a0 == 8) = true := beq_iff_eq.mpr c9
                  have c9b1 : (a0 != 8) = false := bne_eq_false_iff_eq.mpr c9
                  clear c9
                  obtain rfl := Option.some.inj H
                  go_enter Try.func35, Try.ntmps35
                  go_wp2
                  go_ret
                  exact ⟨by first | rfl | (simp; done) | (simp [*]; done), by repeat (first | exact Drawn0.refl _ | apply Drawn0.step)⟩
                · rw [if_neg c9] at H
                  have c9b0 : (a0 == 8) = false := beq_eq_false_iff_ne.mpr c9
                  have c9b1 : (a0 != 8) = true := bne_iff_ne.mpr c9
                  by_cases c10 : a0 = 9
                  · rw [if_pos c10] at H
                    have c10b0 : (a0 == 9) = true := beq_iff_eq.mpr c10
                    have c10b1 : (a0 != 9) = false := bne_eq_false_iff_eq.mpr c10
                    clear c10
                    obtain rfl := Option.some.inj H
                    go_enter Try.func35, Try.ntmps35
                    go_wp2
                    go_ret
                    exact ⟨by first | rfl | (simp; done) | (simp [*]; done), by repeat (first | exact Drawn0.refl _ | apply Drawn0.step)⟩
                  · rw [if_neg c10] at H
                    have c10b0 : (a0 == 9) = false := beq_eq_false_iff_ne.mpr c10
                    have c10b1 : (a0 != 9) = true := bne_iff_ne.mpr c10
                    by_cases c11 : a0 = 10
                    · rw [if_pos c11] at H
                      have c11b0 : (a0 == 10) = true := beq_iff_eq.mpr c11
                      have c11b1 : (a0 != 10) = false := bne_eq_false_iff_eq.mpr c11
                      clear c11
                      obtain rfl := Option.some.inj H
                      go_enter Try.func35, Try.ntmps35
                      go_wp2
                      go_ret
                      exact ⟨by first | rfl | (simp; done) | (simp [*]; done), by repeat (first | exact Drawn0.refl _ | apply Drawn0.step)⟩
                    · rw [if_neg c11] at H
                      have c11b0 : (a0 == 10) = false := beq_eq_false_iff_ne.mpr c11
                      have c11b1 : (a0 != 10) = true := bne_iff_ne.mpr c11
                      by_cases c12 : a0 = 11
                      · rw [if_pos c12] at H
                        have c12b0 : (a0 == 11) = true := beq_iff_eq.mpr c12
                        have c12b1 : (a0 != 11) = false := bne_eq_false_iff_eq.mpr c12
                        clear c12
                        obtain rfl := Option.some.inj H
                        go_enter Try.func35, Try.ntmps35
                        go_wp2
                        go_ret
                        exact ⟨by first | rfl | (simp; done) | (simp [*]; done), by repeat (first | exact Drawn0.refl _ | apply Drawn0.step)⟩
                      · rw [if_neg c12] at H
                        have c12b0 : (a0 == 11) = false := beq_eq_false_iff_ne.mpr c12
                        have c12b1 : (a0 != 11) = true := bne_iff_ne.mpr c12
                        by_cases c13 : a0 = 12
                        · rw [if_pos c13] at H
                          have c13b0 : (a0 == 12) = true := beq_iff_eq.mpr c13
                          have c13b1 : (a0 != 12) = false := bne_eq_false_iff_eq.mpr c13
                          clear c13
                          obtain rfl := Option.some.inj H
                          go_enter Try.func35, Try.ntmps35
                          go_wp2
                          go_ret
                          exact ⟨by first | rfl | (simp; done) | (simp [*]; done), by repeat (first | exact Drawn0.refl _ | apply Drawn0.step)⟩
                        · rw [if_neg c13] at H
                          have c13b0 : (a0 == 12) = false := beq_eq_false_iff_ne.mpr c13
                          have c13b1 : (a0 != 12) = true := bne_iff_ne.mpr c13
                          by_cases c14 : a0 = 13
                          · rw [if_pos c14] at H
                            have c14b0 : (a0 == 13) = true := beq_iff_eq.mpr c14
                            have c14b1 : (a0 != 13) = false := bne_eq_false_iff_eq.mpr c14
                            clear c14
                            obtain rfl := Option.some.inj H
                            go_enter Try.func35, Try.ntmps35
                            go_wp2
                            go_ret
                            exact ⟨by first | rfl | (simp; done) | (simp [*]; done), by repeat (first | exact Drawn0.refl _ | apply Drawn0.step)⟩
                          · rw [if_neg c14] at H
                            have c14b0 : (a0 == 13) = false := beq_eq_false_iff_ne.mpr c14
                            have c14b1 : (a0 != 13) = true := bne_iff_ne.mpr c14
                            by_cases c15 : a0 = 14
                            · rw [if_pos c15] at H
                              have c15b0 : (a0 == 14) = true := beq_iff_eq.mpr c15
                              have c15b1 : (a0 != 14) = false := bne_eq_false_iff_eq.mpr c15
                              clear c15
                              obtain rfl := Option.some.inj H
                              go_enter Try.func35, Try.ntmps35
                              go_wp2
                              go_ret
                              exact ⟨by first | rfl | (simp; done) | (simp [*]; done), by repeat (first | exact Drawn0.refl _ | apply Drawn0.step)⟩
                            · rw [if_neg c15] at H
                              have c15b0 : (a0 == 14) = false := beq_eq_false_iff_ne.mpr c15
                              have c15b1 : (a0 != 14) = true := bne_iff_ne.mpr c15
                              by_cases c16 : a0 = 15
                              · rw [if_pos c16] at H
                                have c16b0 : (a0 == 15) = true := beq_iff_eq.mpr c16
                                have c16b1 : (a0 != 15) = false := bne_eq_false_iff_eq.mpr c16
                                clear c16
                                obtain rfl := Option.some.inj H
                                go_enter Try.func35, Try.ntmps35
                                go_wp2
                                go_ret
                                exact ⟨by first | rfl | (simp; done) | (simp [*]; done), by repeat (first | exact Drawn0.refl _ | apply Drawn0.step)⟩
                              · rw [if_neg c16] at H
                                have c16b0 : (a0 == 15) = false := beq_eq_false_iff_ne.mpr c16
                                have c16b1 : (a0 != 15) = true := bne_iff_ne.mpr c16
                                by_cases c17 : a0 = 16
                                · rw [if_pos c17] at H
                                  have c17b0 : (a0 == 16) = true := beq_iff_eq.mpr c17
                                  have c17b1 : (a0 != 16) = false := bne_eq_false_iff_eq.mpr c17
                                  clear c17
                                  obtain rfl := Option.some.inj H
                                  go_enter Try.func35, Try.ntmps35
                                  go_wp2
                                  go_ret
                                  exact ⟨by first | rfl | (simp; done) | (simp [*]; done), by repeat (first | exact Drawn0.refl _ | apply Drawn0.step)⟩
                                · rw [if_neg c17] at H
                                  have c17b0 : (a0 == 16) = false := beq_eq_false_iff_ne.mpr c17
                                  have c17b1 : (a0 != 16) = true := bne_iff_ne.mpr c17
                                  by_cases c18 : a0 = 17
                                  · rw [if_pos c18] at H
                                    have c18b0 : (a0 == 17) = true := beq_iff_eq.mpr c18
                                    have c18b1 : (a0 != 17) = false := bne_eq_false_iff_eq.mpr c18
                                    clear c18
                                    obtain rfl := Option.some.inj H
                                    go_enter Try.func35, Try.ntmps35
                                    go_wp2
                                    go_ret
                                    exact ⟨by first | rfl | (simp; done) | (simp [*]; done), by repeat (first | exact Drawn0.refl _ | apply Drawn0.step)⟩
                                  · rw [if_neg c18] at H
                                    have c18b0 : (a0 == 17) = false := beq_eq_false_iff_ne.mpr c18
                                    have c18b1 : (a0 != 17) = true := bne_iff_ne.mpr c18
                                    by_cases c19 : a0 = 18
                                    · rw [if_pos c19] at H
                                      have c19b0 : (a0 == 18) = true := beq_iff_eq.mpr c19
                                      have c19b1 : (a0 != 18) = false := bne_eq_false_iff_eq.mpr c19
                                      clear c19
                                      obtain rfl := Option.some.inj H
                                      go_enter Try.func35, Try.ntmps35
                                      go_wp2
                                      go_ret
                                      exact ⟨by first | rfl | (simp; done) | (simp [*]; done), by repeat (first | exact Drawn0.refl _ | apply Drawn0.step)⟩
                                    · rw [if_neg c19] at H
                                      have c19b0 : (a0 == 18) = false := beq_eq_false_iff_ne.mpr c19
                                      have c19b1 : (a0 != 18) = true := bne_iff_ne.mpr c19
                                      by_cases c20 : a0 = 19
                                      · rw [if_pos c20] at H
                                        have c20b0 : (a0 == 19) = true := beq_iff_eq.mpr c20
                                        have c20b1 : (a0 != 19) = false := bne_eq_false_iff_eq.mpr c20
                                        clear c20
                                        obtain rfl := Option.some.inj H
                                        go_enter Try.func35, Try.ntmps35
                                        go_wp2
                                        go_ret
                                        exact ⟨by first | rfl | (simp; done) | (simp [*]; done), by repeat (first | exact Drawn0.refl _ | apply Drawn0.step)⟩
                                      · rw [if_neg c20] at H
                                        have c20b0 : (a0 == 19) = false := beq_eq_false_iff_ne.mpr c20
                                        have c20b1 : (a0 != 19) = true := bne_iff_ne.mpr c20
                                        by_cases c21 : a0 = 127
                                        · rw [if_pos c21] at H
                                          have c21b0 : (a0 == 127) = true := beq_iff_eq.mpr c21
                                          have c21b1 : (a0 != 127) = false := bne_eq_false_iff_eq.mpr c21
                                          clear c21
                                          obtain rfl := Option.some.inj H
                                          go_enter Try.func35, Try.ntmps35
                                          go_wp2
                                          go_ret
                                          exact ⟨by first | rfl | (simp; done) | (simp [*]; done), by repeat (first | exact Drawn0.refl _ | apply Drawn0.step)⟩
                                        · rw [if_neg c21] at H
                                          have c21b0 : (a0 == 127) = false := beq_eq_false_iff_ne.mpr c21
                                          have c21b1 : (a0 != 127) = true := bne_iff_ne.mpr c21
                                          by_cases c22 : a0 = 255
                                          · rw [if_pos c22] at H
                                            have c22b0 : (a0 == 255) = true := beq_iff_eq.mpr c22
                                            have c22b1 : (a0 != 255) = false := bne_eq_false_iff_eq.mpr c22
                                            clear c22
                                            obtain rfl := Option.some.inj H
                                            go_enter Try.func35, Try.ntmps35
                                            go_wp2
                                            go_ret
                                            exact ⟨by first | rfl | (simp; done) | (simp [*]; done), by repeat (first | exact Drawn0.refl _ | apply Drawn0.step)⟩
                                          · rw [if_neg c22] at H
                                            have c22b0 : (a0 == 255) = false := beq_eq_false_iff_ne.mpr c22
                                            have c22b1 : (a0 != 255) = true := bne_iff_ne.mpr c22
                                            obtain rfl := Option.some.inj H
                                            go_enter Try.func35, Try.ntmps35
                                            go_wp2
                                            go_ret
                                            exact ⟨by first | rfl | (simp; done) | (simp [*]; done), by repeat (first | exact Drawn0.refl _ | apply Drawn0.step)⟩

/-! ### impl_TypeName: function 19 -/
def impl_TypeName.f (a0 : Int) : Option (ByteArray) := (bsoncore_Type_String.f ((a0) % 256)).bind fun t101 => (some t101)
set_option maxHeartbeats 8000000 in
set_option maxRecDepth 100000 in
theorem impl_TypeName.calls (a0 : Int) (r : ByteArray) (w : World) (h : impl_TypeName.f a0 = some r) :
    Calls Try.prog 19 #[.int .i64 a0] w fun e w' => e = .returned (.string r) ∧ Drawn0 w w' := by
  have H : ((bsoncore_Type_String.f ((a0) % 256)).bind fun t101 => (some t101)) = some r := h
  clear h
  replace H := Option.bind_eq_some_iff.mp H
  obtain ⟨t101, A20, H⟩ := H
  replace H : (some t101) = some r := H
  have A2 := Aside0.mk A20
  clear A20
  obtain rfl := Option.some.inj H
  go_enter Try.func19, Try.ntmps19
  go_wp2_with (first | ((with_reducible refine gate_callee (f := 35) rfl ?_); refine goesL_ (some 5) rfl rfl Try.func35 (by kernel_rfl) rfl #[.int .u8 ((a0) % 256)] rfl (by (try simp only [List.map_toArray, List.map_cons, List.map_nil]); first | done | rfl | (simp only [List.length_drop, List.length_take]; rfl)) ?_; (with_reducible refine (bsoncore_Type_String.calls ((a0) % 256) t101 _ A2.out).mono ?_); rintro e w' ⟨rfl, ⟨nd, rfl⟩⟩; refine ⟨_, rfl, ?_⟩))
  go_ret
  exact ⟨by first | rfl | (simp; done) | (simp [*]; done), by repeat (first | exact Drawn0.refl _ | apply Drawn0.step)⟩

/-! ### spec_DocKnown: function 20 -/
def spec_DocKnown.f (a0 : Int) : Option (Bool) := if a0 ≥ 1 then (if a0 ≤ 19 then (some true) else (if a0 = 255 then (some true) else (some (a0 == 127)))) else (if a0 = 255 then (some true) else (some (a0 == 127)))
set_option maxHeartbeats 8000000 in
set_option maxRecDepth 100000 in
theorem spec_DocKnown.calls (a0 : Int) (r : Bool) (w : World) (h : spec_DocKnown.f a0 = some r) :
    Calls Try.prog 20 #[.int .i64 a0] w fun e w' => e = .returned (.bool r) ∧ Drawn0 w w' := by
  have H : (if a0 ≥ 1 then (if a0 ≤ 19 then (some true) else (if a0 = 255 then (some true) else (some (a0 == 127)))) else (if a0 = 255 then (some true) else (some (a0 == 127)))) = some r := h
  clear h
  by_cases c2 : a0 ≥ 1
  · rw [if_pos c2] at H
    have c2b0 : decide (1 ≤ a0) = true := decide_eq_true c2
    clear c2
    by_cases c3 : a0 ≤ 19
    · rw [if_pos c3] at H
      have c3b0 : decide (a0 ≤ 19) = true := decide_eq_true c3
      clear c3
      obtain rfl := Option.some.inj H
      go_enter Try.func20, Try.ntmps20
      go_wp2
      go_ret
      exact ⟨by first | rfl | (simp; done) | (simp [*]; done), by repeat (first | exact Drawn0.refl _ | apply Drawn0.step)⟩
    · rw [if_neg c3] at H
      have c3b0 : decide (a0 ≤ 19) = false := decide_eq_false c3
      clear c3
      by_cases c4 : a0 = 255
      · rw [if_pos c4] at H
        have c4b0 : (a0 == 255) = true := beq_iff_eq.mpr c4
        have c4b1 : (a0 != 255) = false := bne_eq_false_iff_eq.mpr c4
        clear c4
        obtain rfl := Option.some.inj H
        go_enter Try.func20, Try.ntmps20
        go_wp2
        go_ret
        exact ⟨by first | rfl | (simp; done) | (simp [*]; done), by repeat (first | exact Drawn0.refl _ | apply Drawn0.step)⟩
      · rw [if_neg c4] at H
        have c4b0 : (a0 == 255) = false := beq_eq_false_iff_ne.mpr c4
        have c4b1 : (a0 != 255) = true := bne_iff_ne.mpr c4
        obtain rfl := Option.some.inj H
        go_enter Try.func20, Try.ntmps20
        go_wp2
        go_ret
        exact ⟨by first | rfl | (simp; done) | (simp [*]; done), by repeat (first | exact Drawn0.refl _ | apply Drawn0.step)⟩
  · rw [if_neg c2] at H
    have c2b0 : decide (1 ≤ a0) = false := decide_eq_false c2
    clear c2
    by_cases c5 : a0 = 255
    · rw [if_pos c5] at H
      have c5b0 : (a0 == 255) = true := beq_iff_eq.mpr c5
      have c5b1 : (a0 != 255) = false := bne_eq_false_iff_eq.mpr c5
      clear c5
      obtain rfl := Option.some.inj H
      go_enter Try.func20, Try.ntmps20
      go_wp2
      go_ret
      exact ⟨by first | rfl | (simp; done) | (simp [*]; done), by repeat (first | exact Drawn0.refl _ | apply Drawn0.step)⟩
    · rw [if_neg c5] at H
      have c5b0 : (a0 == 255) = false := beq_eq_false_iff_ne.mpr c5
      have c5b1 : (a0 != 255) = true := bne_iff_ne.mpr c5
      obtain rfl := Option.some.inj H
      go_enter Try.func20, Try.ntmps20
      go_wp2
      go_ret
      exact ⟨by first | rfl | (simp; done) | (simp [*]; done), by repeat (first | exact Drawn0.refl _ | apply Drawn0.step)⟩

/-! ### laws_FnDocKindNames: function 6 -/
def laws_FnDocKindNames.j0 : Nat → Int → Int → ByteArray → ByteArray → Bool → Option (Bool)
  | 0, _, _, _, _, _ => none
  | k + 1, x0, x1, x5, x6, x22 => if x22 = true then ((spec_DocKnown.f (wrap64 (x0))).bind fun t106 => ((spec_DocKnown.f (wrap64 (x1))).bind fun t107 => (if ((x5.toList == x6.toList) == (t106 == t107)) = true then ((impl_TypeName.f 0).bind fun t108 => ((impl_TypeName.f 16).bind fun t109 => (some (t108.toList != t109.toList)))) else (some false)))) else (if ((x5.toList == x6.toList) == (x0 == x1)) = true then (if x5.toList = ([] : List UInt8) then (some false) else ((impl_TypeName.f 0).bind fun t110 => (some (t110.toList != x5.toList)))) else (some false))
def laws_FnDocKindNames.f (k : Nat) (a0 : Int) (a1 : Int) : Option (Bool) := (impl_TypeName.f (wrap64 (a0))).bind fun t102 => ((impl_TypeName.f (wrap64 (a1))).bind fun t103 => ((spec_DocKnown.f (wrap64 (a0))).bind fun t104 => (if t104 = true then ((spec_DocKnown.f (wrap64 (a1))).bind fun t105 => (laws_FnDocKindNames.j0 k a0 a1 t102 t103 (!t105))) else (laws_FnDocKindNames.j0 k a0 a1 t102 t103 true))))
theorem laws_FnDocKindNames.mono_l : ∀ k, (∀ y0 y1 y2 y3 y4, LeO (laws_FnDocKindNames.j0 k y0 y1 y2 y3 y4) (laws_FnDocKindNames.j0 (k + 1) y0 y1 y2 y3 y4))
  | 0 => fun _ _ _ _ _ r h => by simp [laws_FnDocKindNames.j0] at h
  | k + 1 => by
    have ih0 := laws_FnDocKindNames.mono_l k
    · intro y0 y1 y2 y3 y4
      unfold laws_FnDocKindNames.j0
      repeat' first
      | (with_reducible exact ih0 _ _ _ _ _)
      | (with_reducible exact LeO.refl _)
      | (with_reducible exact LeO.none _)
      | (with_reducible refine LeO.ite ?_ ?_)
      | (with_reducible refine LeO.bind ?_ (fun _ => ?_))
      | exact ih0 _ _ _ _ _
      | exact LeO.none _
      | refine LeO.ite ?_ ?_
      | refine LeO.bind ?_ (fun _ => ?_)
theorem laws_FnDocKindNames.mono : ∀ a0 a1 k, LeO (laws_FnDocKindNames.f k a0 a1) (laws_FnDocKindNames.f (k + 1) a0 a1) := by
  intro a0 a1 k
  have ih0 := laws_FnDocKindNames.mono_l k
  unfold laws_FnDocKindNames.f
  repeat' first
      | (with_reducible exact ih0 _ _ _ _ _)
      | (with_reducible exact LeO.refl _)
      | (with_reducible exact LeO.none _)
      | (with_reducible refine LeO.ite ?_ ?_)
      | (with_reducible refine LeO.bind ?_ (fun _ => ?_))
      | exact ih0 _ _ _ _ _
      | exact LeO.none _
      | refine LeO.ite ?_ ?_
      | refine LeO.bind ?_ (fun _ => ?_)
set_option maxHeartbeats 8000000 in
set_option maxRecDepth 100000 in
theorem laws_FnDocKindNames.calls (k : Nat) (a0 : Int) (a1 : Int) (r : Bool) (w : World) (h : laws_FnDocKindNames.f k a0 a1 = some r) :
    Calls Try.prog 6 #[.int .u8 a0, .int .u8 a1] w fun e w' => e = .returned (.bool r) ∧ Drawn0 w w' := by
  have H : ((impl_TypeName.f (wrap64 (a0))).bind fun t102 => ((impl_TypeName.f (wrap64 (a1))).bind fun t103 => ((spec_DocKnown.f (wrap64 (a0))).bind fun t104 => (if t104 = true then ((spec_DocKnown.f (wrap64 (a1))).bind fun t105 => (laws_FnDocKindNames.j0 k a0 a1 t102 t103 (!t105))) else (laws_FnDocKindNames.j0 k a0 a1 t102 t103 true))))) = some r := h
  clear h
  replace H := Option.bind_eq_some_iff.mp H
  obtain ⟨t102, A30, H⟩ := H
  replace H : ((impl_TypeName.f (wrap64 (a1))).bind fun t103 => ((spec_DocKnown.f (wrap64 (a0))).bind fun t104 => (if t104 = true then ((spec_DocKnown.f (wrap64 (a1))).bind fun t105 => (laws_FnDocKindNames.j0 k a0 a1 t102 t103 (!t105))) else (laws_FnDocKindNames.j0 k a0 a1 t102 t103 true)))) = some r := H
  have A3 := Aside0.mk A30
  clear A30
  replace H := Option.bind_eq_some_iff.mp H
  obtain ⟨t103, A40, H⟩ := H
  replace H : ((spec_DocKnown.f (wrap64 (a0))).bind fun t104 => (if t104 = true then ((spec_DocKnown.f (wrap64 (a1))).bind fun t105 => (laws_FnDocKindNames.j0 k a0 a1 t102 t103 (!t105))) else (laws_FnDocKindNames.j0 k a0 a1 t102 t103 true))) = some r := H
  have A4 := Aside0.mk A40
  clear A40
  have HC5 := Aside0.mk H
  clear H
  go_enter Try.func6, Try.ntmps6
  go_upto_region 2 with (first | ((with_reducible refine gate_callee (f := 19) rfl ?_); refine goesL_ (some 9) rfl rfl Try.func19 (by kernel_rfl) rfl #[.int .i64 (wrap64 (a0))] rfl (by (try simp only [List.map_toArray, List.map_cons, List.map_nil]); first | done | rfl | (simp only [List.length_drop, List.length_take]; rfl)) ?_; (with_reducible refine (impl_TypeName.calls (wrap64 (a0)) t102 _ A3.out).mono ?_); rintro e w' ⟨rfl, ⟨nd, rfl⟩⟩; refine ⟨_, rfl, ?_⟩) | ((with_reducible refine gate_callee (f := 19) rfl ?_); refine goesL_ (some 12) rfl rfl Try.func19 (by kernel_rfl) rfl #[.int .i64 (wrap64 (a1))] rfl (by (try simp only [List.map_toArray, List.map_cons, List.map_nil]); first | done | rfl | (simp only [List.length_drop, List.length_take]; rfl)) ?_; (with_reducible refine (impl_TypeName.calls (wrap64 (a1)) t103 _ A4.out).mono ?_); rintro e w' ⟨rfl, ⟨nd, rfl⟩⟩; refine ⟨_, rfl, ?_⟩))
  (try simp only [Act.put, List.setIfInBounds_toArray, List.set_cons_zero, List.set_cons_succ])
  go_cut [22] (fun v22 wc => ∃ (kq : Nat) (x22_4 : Bool), v22 = .bool x22_4 ∧ Aside0 (laws_FnDocKindNames.j0 kq a0 a1 t102 t103 x22_4 = some r) ∧ Aside0 (kq ≤ k) ∧ Drawn0 w wc)
  case first =>
    have H := HC5.out
    clear HC5
    replace H := Option.bind_eq_some_iff.mp H
    obtain ⟨t104, A60, H⟩ := H
    replace H : (if t104 = true then ((spec_DocKnown.f (wrap64 (a1))).bind fun t105 => (laws_FnDocKindNames.j0 k a0 a1 t102 t103 (!t105))) else (laws_FnDocKindNames.j0 k a0 a1 t102 t103 true)) = some r := H
    have A6 := Aside0.mk A60
    clear A60
    by_cases c7 : t104 = true
    · subst c7
      have H1 : ((spec_DocKnown.f (wrap64 (a1))).bind fun t105 => (laws_FnDocKindNames.j0 k a0 a1 t102 t103 (!t105))) = some r := by rw [if_pos rfl] at H; exact H
      clear H
      have H := H1
      clear H1
      replace H := Option.bind_eq_some_iff.mp H
      obtain ⟨t105, A80, H⟩ := H
      replace H : (laws_FnDocKindNames.j0 k a0 a1 t102 t103 (!t105)) = some r := H
      have A8 := Aside0.mk A80
      clear A80
      have H' := Aside0.mk H
      clear H
      go_wp2_with (first | ((with_reducible refine gate_callee (f := 20) rfl ?_); refine goesL_ (some 15) rfl rfl Try.func20 (by kernel_rfl) rfl #[.int .i64 (wrap64 (a0))] rfl (by (try simp only [List.map_toArray, List.map_cons, List.map_nil]); first | done | rfl | (simp only [List.length_drop, List.length_take]; rfl)) ?_; (with_reducible refine (spec_DocKnown.calls (wrap64 (a0)) true _ A6.out).mono ?_); rintro e w' ⟨rfl, ⟨nd, rfl⟩⟩; refine ⟨_, rfl, ?_⟩) | (go_at_call 20; (with_reducible refine (spec_DocKnown.calls (wrap64 (a1)) t105 _ A8.out).mono ?_); rintro e w' ⟨rfl, ⟨nd, rfl⟩⟩))
      go_meet
      case rel => exact ⟨_, (!t105), (by first | rfl | (simp; done) | (simp [*]; done)), H', ⟨by first | omega | exact Nat.le_refl _⟩, by repeat (first | exact Drawn0.refl _ | apply Drawn0.step)⟩
    · replace c7 := Bool.eq_false_iff.mpr c7
      subst c7
      have H1 : (laws_FnDocKindNames.j0 k a0 a1 t102 t103 true) = some r := by rw [if_neg (show ¬ (false = true) by decide)] at H; exact H
      clear H
      have H := H1
      clear H1
      have H' := Aside0.mk H
      clear H
      go_wp2_with (first | ((with_reducible refine gate_callee (f := 20) rfl ?_); refine goesL_ (some 15) rfl rfl Try.func20 (by kernel_rfl) rfl #[.int .i64 (wrap64 (a0))] rfl (by (try simp only [List.map_toArray, List.map_cons, List.map_nil]); first | done | rfl | (simp only [List.length_drop, List.length_take]; rfl)) ?_; (with_reducible refine (spec_DocKnown.calls (wrap64 (a0)) false _ A6.out).mono ?_); rintro e w' ⟨rfl, ⟨nd, rfl⟩⟩; refine ⟨_, rfl, ?_⟩))
      go_meet
      case rel => exact ⟨_, (true), (by first | rfl | (simp; done) | (simp [*]; done)), H', ⟨by first | omega | exact Nat.le_refl _⟩, by repeat (first | exact Drawn0.refl _ | apply Drawn0.step)⟩
  case rest =>
    clear HC5
    try clear c1
    try clear c2
    try clear p2
    try clear c6
    try clear p6
    try clear c7
    obtain ⟨kq, x22_4, rfl, HA, HJ4, ⟨mc4, rfl⟩⟩ := hcut
    cases kq with
    | zero => exact absurd HA.out (by simp [laws_FnDocKindNames.j0])
    | succ kj4 =>
      have H := HA.out
      clear HA
      simp only [laws_FnDocKindNames.j0] at H
      by_cases c9 : x22_4 = true
      · subst c9
        have H1 : ((spec_DocKnown.f (wrap64 (a0))).bind fun t106 => ((spec_DocKnown.f (wrap64 (a1))).bind fun t107 => (if ((t102.toList == t103.toList) == (t106 == t107)) = true then ((impl_TypeName.f 0).bind fun t108 => ((impl_TypeName.f 16).bind fun t109 => (some (t108.toList != t109.toList)))) else (some false)))) = some r := by rw [if_pos rfl] at H; exact H
        clear H
        have H := H1
        clear H1
        replace H := Option.bind_eq_some_iff.mp H
        obtain ⟨t106, A100, H⟩ := H
        replace H : ((spec_DocKnown.f (wrap64 (a1))).bind fun t107 => (if ((t102.toList == t103.toList) == (t106 == t107)) = true then ((impl_TypeName.f 0).bind fun t108 => ((impl_TypeName.f 16).bind fun t109 => (some (t108.toList != t109.toList)))) else (some false))) = some r := H
        have A10 := Aside0.mk A100
        clear A100
        replace H := Option.bind_eq_some_iff.mp H
        obtain ⟨t107, A110, H⟩ := H
        replace H : (if ((t102.toList == t103.toList) == (t106 == t107)) = true then ((impl_TypeName.f 0).bind fun t108 => ((impl_TypeName.f 16).bind fun t109 => (some (t108.toList != t109.toList)))) else (some false)) = some r := H
        have A11 := Aside0.mk A110
        clear A110
        by_cases c12 : ((t102.toList == t103.toList) == (t106 == t107)) = true
        · rw [if_pos c12] at H
          have c12b0 : ((t102.toList == t103.toList) == (t106 == t107)) = true := c12
          (try (have c12b1 : decide ((t102.toList == t103.toList) = (t106 == t107)) = true := by simpa using c12))
          (try (have c12b2 : ((t102.toList == t103.toList) == (t106 == t107)) = true := by simpa using c12))
          clear c12
          replace H := Option.bind_eq_some_iff.mp H
          obtain ⟨t108, A130, H⟩ := H
          replace H : ((impl_TypeName.f 16).bind fun t109 => (some (t108.toList != t109.toList))) = some r := H
          have A13 := Aside0.mk A130
          clear A130
          replace H := Option.bind_eq_some_iff.mp H
          obtain ⟨t109, A140, H⟩ := H
          replace H : (some (t108.toList != t109.toList)) = some r := H
          have A14 := Aside0.mk A140
          clear A140
          obtain rfl := Option.some.inj H
          go_wp2_with (first | ((with_reducible refine gate_callee (f := 20) rfl ?_); refine goesL_ (some 28) rfl rfl Try.func20 (by kernel_rfl) rfl #[.int .i64 (wrap64 (a0))] rfl (by (try simp only [List.map_toArray, List.map_cons, List.map_nil]); first | done | rfl | (simp only [List.length_drop, List.length_take]; rfl)) ?_; (with_reducible refine (spec_DocKnown.calls (wrap64 (a0)) t106 _ A10.out).mono ?_); rintro e w' ⟨rfl, ⟨nd, rfl⟩⟩; refine ⟨_, rfl, ?_⟩) | ((with_reducible refine gate_callee (f := 20) rfl ?_); refine goesL_ (some 31) rfl rfl Try.func20 (by kernel_rfl) rfl #[.int .i64 (wrap64 (a1))] rfl (by (try simp only [List.map_toArray, List.map_cons, List.map_nil]); first | done | rfl | (simp only [List.length_drop, List.length_take]; rfl)) ?_; (with_reducible refine (spec_DocKnown.calls (wrap64 (a1)) t107 _ A11.out).mono ?_); rintro e w' ⟨rfl, ⟨nd, rfl⟩⟩; refine ⟨_, rfl, ?_⟩) | (go_at_call 19; (with_reducible refine (impl_TypeName.calls 0 t108 _ A13.out).mono ?_); rintro e w' ⟨rfl, ⟨nd, rfl⟩⟩) | (go_at_call 19; (with_reducible refine (impl_TypeName.calls 16 t109 _ A14.out).mono ?_); rintro e w' ⟨rfl, ⟨nd, rfl⟩⟩))
          go_ret
          exact ⟨by first | rfl | (simp; done) | (simp [*]; done), by repeat (first | exact Drawn0.refl _ | apply Drawn0.step)⟩
        · rw [if_neg c12] at H
          have c12b0 : ((t102.toList == t103.toList) == (t106 == t107)) = false := by simpa using c12
          (try (have c12b1 : decide ((t102.toList == t103.toList) = (t106 == t107)) = false := by simpa using c12))
          (try (have c12b2 : ((t102.toList == t103.toList) == (t106 == t107)) = false := by simpa using c12))
          (try (have c12b3 : ¬ ((t102.toList == t103.toList) = (t106 == t107)) := by simpa using c12))
          clear c12
          obtain rfl := Option.some.inj H
          go_wp2_with (first | ((with_reducible refine gate_callee (f := 20) rfl ?_); refine goesL_ (some 28) rfl rfl Try.func20 (by kernel_rfl) rfl #[.int .i64 (wrap64 (a0))] rfl (by (try simp only [List.map_toArray, List.map_cons, List.map_nil]); first | done | rfl | (simp only [List.length_drop, List.length_take]; rfl)) ?_; (with_reducible refine (spec_DocKnown.calls (wrap64 (a0)) t106 _ A10.out).mono ?_); rintro e w' ⟨rfl, ⟨nd, rfl⟩⟩; refine ⟨_, rfl, ?_⟩) | ((with_reducible refine gate_callee (f := 20) rfl ?_); refine goesL_ (some 31) rfl rfl Try.func20 (by kernel_rfl) rfl #[.int .i64 (wrap64 (a1))] rfl (by (try simp only [List.map_toArray, List.map_cons, List.map_nil]); first | done | rfl | (simp only [List.length_drop, List.length_take]; rfl)) ?_; (with_reducible refine (spec_DocKnown.calls (wrap64 (a1)) t107 _ A11.out).mono ?_); rintro e w' ⟨rfl, ⟨nd, rfl⟩⟩; refine ⟨_, rfl, ?_⟩))
          go_ret
          exact ⟨by first | rfl | (simp; done) | (simp [*]; done), by repeat (first | exact Drawn0.refl _ | apply Drawn0.step)⟩
      · replace c9 := Bool.eq_false_iff.mpr c9
        subst c9
        have H1 : (if ((t102.toList == t103.toList) == (a0 == a1)) = true then (if t102.toList = ([] : List UInt8) then (some false) else ((impl_TypeName.f 0).bind fun t110 => (some (t110.toList != t102.toList)))) else (some false)) = some r := by rw [if_neg (show ¬ (false = true) by decide)] at H; exact H
        clear H
        have H := H1
        clear H1
        by_cases c15 : ((t102.toList == t103.toList) == (a0 == a1)) = true
        · rw [if_pos c15] at H
          have c15b0 : ((t102.toList == t103.toList) == (a0 == a1)) = true := c15
          (try (have c15b1 : decide ((t102.toList == t103.toList) = (a0 == a1)) = true := by simpa using c15))
          (try (have c15b2 : ((t102.toList == t103.toList) == (a0 == a1)) = true := by simpa using c15))
          clear c15
          by_cases c16 : t102.toList = ([] : List UInt8)
          · rw [if_pos c16] at H
            have c16b0 : (t102.toList == ([] : List UInt8)) = true := beq_iff_eq.mpr c16
            have c16b1 : (t102.toList != ([] : List UInt8)) = false := bne_eq_false_iff_eq.mpr c16
            clear c16
            obtain rfl := Option.some.inj H
            go_wp2
            go_ret
            exact ⟨by first | rfl | (simp; done) | (simp [*]; done), by repeat (first | exact Drawn0.refl _ | apply Drawn0.step)⟩
          · rw [if_neg c16] at H
            have c16b0 : (t102.toList == ([] : List UInt8)) = false := beq_eq_false_iff_ne.mpr c16
            have c16b1 : (t102.toList != ([] : List UInt8)) = true := bne_iff_ne.mpr c16
            replace H := Option.bind_eq_some_iff.mp H
            obtain ⟨t110, A170, H⟩ := H
            replace H : (some (t110.toList != t102.toList)) = some r := H
            have A17 := Aside0.mk A170
            clear A170
            obtain rfl := Option.some.inj H
            go_wp2_with (first | (go_at_call 19; (with_reducible refine (impl_TypeName.calls 0 t110 _ A17.out).mono ?_); rintro e w' ⟨rfl, ⟨nd, rfl⟩⟩))
            go_ret
            exact ⟨by first | rfl | (simp; done) | (simp [*]; done), by repeat (first | exact Drawn0.refl _ | apply Drawn0.step)⟩
        · rw [if_neg c15] at H
          have c15b0 : ((t102.toList == t103.toList) == (a0 == a1)) = false := by simpa using c15
          (try (have c15b1 : decide ((t102.toList == t103.toList) = (a0 == a1)) = false := by simpa using c15))
          (try (have c15b2 : ((t102.toList == t103.toList) == (a0 == a1)) = false := by simpa using c15))
          (try (have c15b3 : ¬ ((t102.toList == t103.toList) = (a0 == a1)) := by simpa using c15))
          clear c15
          obtain rfl := Option.some.inj H
          go_wp2
          go_ret
          exact ⟨by first | rfl | (simp; done) | (simp [*]; done), by repeat (first | exact Drawn0.refl _ | apply Drawn0.step)⟩

/-- THE ONE PURE STATEMENT of laws_FnDocKindNames: yours. -/
def laws_FnDocKindNames.Pure : Prop := ∀ (a0 : Int) (a1 : Int), (Lit.int .u8 a0).wf = true → (Lit.int .u8 a1).wf = true → ∃ k, laws_FnDocKindNames.f k a0 a1 = some true
theorem laws_FnDocKindNames.walk (P : laws_FnDocKindNames.Pure) (a0 : Int) (a1 : Int) (w : World) (w0 : (Lit.int .u8 a0).wf = true) (w1 : (Lit.int .u8 a1).wf = true) :
    Calls Try.prog 6 #[.int .u8 a0, .int .u8 a1] w fun e w' => e = .returned (.bool true) ∧ Below w.heap.size w w' := by
  obtain ⟨k, h⟩ := P a0 a1 w0 w1
  refine (laws_FnDocKindNames.calls k a0 a1 true w h).mono ?_
  rintro e w' ⟨rfl, hd⟩
  exact ⟨rfl, hd.below⟩

end Go.Proofs.Ytfamhjnjlgdglaa.PFnDocKindNames
