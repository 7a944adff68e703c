-- PRINTED BY print.sh 35421559b90ae4d0a3588c463048766b98c2df88dd9212a6774a882060cdf62d: not written by this session
import Derived.Test.YtfpnhlfmnoikhabPFnBindNamesx0
namespace Go.Proofs.Ytfpnhlfmnoikhab.PFnBindNames
open Go.RowKit Go.Proofs.YtfpnhlfmnoikhabW.PrintWords Go.Proofs.YtfpnhlfmnoikhabW.PrintLast Go.Proofs.YtfpnhlfmnoikhabW.PrintMore
attribute [local go_sem] max2_int min2_int max_two min_two max_three min_three max_four min_four   -- for this text's walks alone
set_option linter.unusedVariables false
set_option linter.unusedSimpArgs false

/-! ### spec_DocKnown: function 6 -/
def spec_DocKnown.f (a0 : Int) : Option (Bool) := if a0 ≥ 1 then (if a0 ≤ 19 then (some true) else (if a0 = 255 then (some true) else (some (a0 == 127)))) else (if a0 = 255 then (some true) else (some (a0 == 127)))
set_option maxHeartbeats 8000000 in
set_option maxRecDepth 100000 in
theorem spec_DocKnown.calls (a0 : Int) (r : Bool) (w : World) (h : spec_DocKnown.f a0 = some r) :
    Calls Try.prog 6 #[.int .i64 a0] w fun e w' => e = .returned (.bool r) ∧ Drawn0 w w' := by
  have H : (if a0 ≥ 1 then (if a0 ≤ 19 then (some true) else (if a0 = 255 then (some true) else (some (a0 == 127)))) else (if a0 = 255 then (some true) else (some (a0 == 127)))) = some r := h
  clear h
  by_cases c2 : a0 ≥ 1
  · rw [if_pos c2] at H
    have c2b0 : decide (1 ≤ a0) = true := decide_eq_true c2
    clear c2
    by_cases c3 : a0 ≤ 19
    · rw [if_pos c3] at H
      have c3b0 : decide (a0 ≤ 19) = true := decide_eq_true c3
      clear c3
      obtain rfl := Option.some.inj H
      go_enter Try.func6, Try.ntmps6
      go_wp2
      go_ret
      exact ⟨by first | rfl | (simp; done) | (simp [*]; done), by repeat (first | exact Drawn0.refl _ | apply Drawn0.step)⟩
    · rw [if_neg c3] at H
      have c3b0 : decide (a0 ≤ 19) = false := decide_eq_false c3
      clear c3
      by_cases c4 : a0 = 255
      · rw [if_pos c4] at H
        have c4b0 : (a0 == 255) = true := beq_iff_eq.mpr c4
        have c4b1 : (a0 != 255) = false := bne_eq_false_iff_eq.mpr c4
        clear c4
        obtain rfl := Option.some.inj H
        go_enter Try.func6, Try.ntmps6
        go_wp2
        go_ret
        exact ⟨by first | rfl | (simp; done) | (simp [*]; done), by repeat (first | exact Drawn0.refl _ | apply Drawn0.step)⟩
      · rw [if_neg c4] at H
        have c4b0 : (a0 == 255) = false := beq_eq_false_iff_ne.mpr c4
        have c4b1 : (a0 != 255) = true := bne_iff_ne.mpr c4
        obtain rfl := Option.some.inj H
        go_enter Try.func6, Try.ntmps6
        go_wp2
        go_ret
        exact ⟨by first | rfl | (simp; done) | (simp [*]; done), by repeat (first | exact Drawn0.refl _ | apply Drawn0.step)⟩
  · rw [if_neg c2] at H
    have c2b0 : decide (1 ≤ a0) = false := decide_eq_false c2
    clear c2
    by_cases c5 : a0 = 255
    · rw [if_pos c5] at H
      have c5b0 : (a0 == 255) = true := beq_iff_eq.mpr c5
      have c5b1 : (a0 != 255) = false := bne_eq_false_iff_eq.mpr c5
      clear c5
      obtain rfl := Option.some.inj H
      go_enter Try.func6, Try.ntmps6
      go_wp2
      go_ret
      exact ⟨by first | rfl | (simp; done) | (simp [*]; done), by repeat (first | exact Drawn0.refl _ | apply Drawn0.step)⟩
    · rw [if_neg c5] at H
      have c5b0 : (a0 == 255) = false := beq_eq_false_iff_ne.mpr c5
      have c5b1 : (a0 != 255) = true := bne_iff_ne.mpr c5
      obtain rfl := Option.some.inj H
      go_enter Try.func6, Try.ntmps6
      go_wp2
      go_ret
      exact ⟨by first | rfl | (simp; done) | (simp [*]; done), by repeat (first | exact Drawn0.refl _ | apply Drawn0.step)⟩

/-! ### bsoncore_Type_String: function 33 -/
def bsoncore_Type_String.f (a0 : Int) : Option (ByteArray) := if a0 = 1 then (some (⟨#[100, 111, 117, 98, 108, 101]⟩ : ByteArray)) else (if a0 = 2 then (some (⟨#[115, 116, 114, 105, 110, 103]⟩ : ByteArray)) else (if a0 = 3 then (some (⟨#[101, 109, 98, 101, 100, 100, 101, 100, 32, 100, 111, 99, 117, 109, 101, 110, 116]⟩ : ByteArray)) else (if a0 = 4 then (some (⟨#[97, 114, 114, 97, 121]⟩ : ByteArray)) else (if a0 = 5 then (some (⟨#[98, 105, 110, 97, 114, 121]⟩ : ByteArray)) else (if a0 = 6 then (some (⟨#[117, 110, 100, 101, 102, 105, 110, 101, 100]⟩ : ByteArray)) else (if a0 = 7 then (some (⟨#[111, 98, 106, 101, 99, 116, 73, 68]⟩ : ByteArray)) else (if a0 = 8 then (some (⟨#[98, 111, 111, 108, 101, 97, 110]⟩ : ByteArray)) else (if a0 = 9 then (some (⟨#[85, 84, 67, 32, 100, 97, 116, 101, 116, 105, 109, 101]⟩ : ByteArray)) else (if a0 = 10 then (some (⟨#[110, 117, 108, 108]⟩ : ByteArray)) else (if a0 = 11 then (some (⟨#[114, 101, 103, 101, 120]⟩ : ByteArray)) else (if a0 = 12 then (some (⟨#[100, 98, 80, 111, 105, 110, 116, 101, 114]⟩ : ByteArray)) else (if a0 = 13 then (some (⟨#[106, 97, 118, 97, 115, 99, 114, 105, 112, 116]⟩ : ByteArray)) else (if a0 = 14 then (some (⟨#[115, 121, 109, 98, 111, 108]⟩ : ByteArray)) else (if a0 = 15 then (some (⟨#[99, 111, 100, 101, 32, 119, 105, 116, 104, 32, 115, 99, 111, 112, 101]⟩ : ByteArray)) else (if a0 = 16 then (some (⟨#[51, 50, 45, 98, 105, 116, 32, 105, 110, 116, 101, 103, 101, 114]⟩ : ByteArray)) else (if a0 = 17 then (some (⟨#[116, 105, 109, 101, 115, 116, 97, 109, 112]⟩ : ByteArray)) else (if a0 = 18 then (some (⟨#[54, 52, 45, 98, 105, 116, 32, 105, 110, 116, 101, 103, 101, 114]⟩ : ByteArray)) else (if a0 = 19 then (some (⟨#[49, 50, 56, 45, 98, 105, 116, 32, 100, 101, 99, 105, 109, 97, 108]⟩ : ByteArray)) else (if a0 = 127 then (some (⟨#[109, 97, 120, 32, 107, 101, 121]⟩ : ByteArray)) else (if a0 = 255 then (some (⟨#[109, 105, 110, 32, 107, 101, 121]⟩ : ByteArray)) else (some (⟨#[105, 110, 118, 97, 108, 105, 100]⟩ : ByteArray))))))))))))))))))))))
set_option maxHeartbeats 8000000 in
set_option maxRecDepth 100000 in
theorem bsoncore_Type_String.calls (a0 : Int) (r : ByteArray) (w : World) (h : bsoncore_Type_String.f a0 = some r) :
    Calls Try.prog 33 #[.int .u8 a0] w fun e w' => e = .returned (.string r) ∧ Drawn0 w w' := by
  have H : (if a0 = 1 then (some (⟨#[100, 111, 117, 98, 108, 101]⟩ : ByteArray)) else (if a0 = 2 then (some (⟨#[115, 116, 114, 105, 110, 103]⟩ : ByteArray)) else (if a0 = 3 then (some (⟨#[101, 109, 98, 101, 100, 100, 101, 100, 32, 100, 111, 99, 117, 109, 101, 110, 116]⟩ : ByteArray)) else (if a0 = 4 then (some (⟨#[97, 114, 114, 97, 121]⟩ : ByteArray)) else (if a0 = 5 then (some (⟨#[98, 105, 110, 97, 114, 121]⟩ : ByteArray)) else (if a0 = 6 then (some (⟨#[117, 110, 100, 101, 102, 105, 110, 101, 100]⟩ : ByteArray)) else (if a0 = 7 then (some (⟨#[111, 98, 106, 101, 99, 116, 73, 68]⟩ : ByteArray)) else (if a0 = 8 then (some (⟨#[98, 111, 111, 108, 101, 97, 110]⟩ : ByteArray)) else (if a0 = 9 then (some (⟨#[85, 84, 67, 32, 100, 97, 116, 101, 116, 105, 109, 101]⟩ : ByteArray)) else (if a0 = 10 then (some (⟨#[110, 117, 108, 108]⟩ : ByteArray)) else (if a0 = 11 then (some (⟨#[114, 101, 103, 101, 120]⟩ : ByteArray)) else (if a0 = 12 then (some (⟨#[100, 98, 80, 111, 105, 110, 116, 101, 114]⟩ : ByteArray)) else (if a0 = 13 then (some (⟨#[106, 97, 118, 97, 115, 99, 114, 105, 112, 116]⟩ : ByteArray)) else (if a0 = 14 then (some (⟨#[115, 121, 109, 98, 111, 108]⟩ : ByteArray)) else (if a0 = 15 then (some (⟨#[99, 111, 100, 101, 32, 119, 105, 116, 104, 32, 115, 99, 111, 112, 101]⟩ : ByteArray)) else (if a0 = 16 then (some (⟨#[51, 50, 45, 98, 105, 116, 32, 105, 110, 116, 101, 103, 101, 114]⟩ : ByteArray)) else (if a0 = 17 then (some (⟨#[116, 105, 109, 101, 115, 116, 97, 109, 112]⟩ : ByteArray)) else (if a0 = 18 then (some (⟨#[54, 52, 45, 98, 105, 116, 32, 105, 110, 116, 101, 103, 101, 114]⟩ : ByteArray)) else (if a0 = 19 then (some (⟨#[49, 50, 56, 45, 98, 105, 116, 32, 100, 101, 99, 105, 109, 97, 108]⟩ : ByteArray)) else (if a0 = 127 then (some (⟨#[109, 97, 120, 32, 107, 101, 121]⟩ : ByteArray)) else (if a0 = 255 then (some (⟨#[109, 105, 110, 32, 107, 101, 121]⟩ : ByteArray)) else (some (⟨#[105, 110, 118, 97, 108, 105, 100]⟩ : ByteArray))))))))))))))))))))))) = some r := h
  clear h
  by_cases c2 : a0 = 1
  · rw [if_pos c2] at H
    have c2b0 : (a0 == 1) = true := beq_iff_eq.mpr c2
    have c2b1 : (a0 != 1) = false := bne_eq_false_iff_eq.mpr c2
    clear c2
    obtain rfl := Option.some.inj H
    go_enter Try.func33, Try.ntmps33
    go_wp2
    go_ret
    exact ⟨by first | rfl | (simp; done) | (simp [*]; done), by repeat (first | exact Drawn0.refl _ | apply Drawn0.step)⟩
  · rw [if_neg c2] at H
    have c2b0 : (a0 == 1) = false := beq_eq_false_iff_ne.mpr c2
    have c2b1 : (a0 != 1) = true := bne_iff_ne.mpr c2
    by_cases c3 : a0 = 2
    · rw [if_pos c3] at H
      have c3b0 : (a0 == 2) = true := beq_iff_eq.mpr c3
      have c3b1 : (a0 != 2) = false := bne_eq_false_iff_eq.mpr c3
      clear c3
      obtain rfl := Option.some.inj H
      go_enter Try.func33, Try.ntmps33
      go_wp2
      go_ret
      exact ⟨by first | rfl | (simp; done) | (simp [*]; done), by repeat (first | exact Drawn0.refl _ | apply Drawn0.step)⟩
    · rw [if_neg c3] at H
      have c3b0 : (a0 == 2) = false := beq_eq_false_iff_ne.mpr c3
      have c3b1 : (a0 != 2) = true := bne_iff_ne.mpr c3
      by_cases c4 : a0 = 3
      · rw [if_pos c4] at H
        have c4b0 : (a0 == 3) = true := beq_iff_eq.mpr c4
        have c4b1 : (a0 != 3) = false := bne_eq_false_iff_eq.mpr c4
        clear c4
        obtain rfl := Option.some.inj H
        go_enter Try.func33, Try.ntmps33
        go_wp2
        go_ret
        exact ⟨by first | rfl | (simp; done) | (simp [*]; done), by repeat (first | exact Drawn0.refl _ | apply Drawn0.step)⟩
      · rw [if_neg c4] at H
        have c4b0 : (a0 == 3) = false := beq_eq_false_iff_ne.mpr c4
        have c4b1 : (a0 != 3) = true := bne_iff_ne.mpr c4
        by_cases c5 : a0 = 4
        · rw [if_pos c5] at H
          have c5b0 : (a0 == 4) = true := beq_iff_eq.mpr c5
          have c5b1 : (a0 != 4) = false := bne_eq_false_iff_eq.mpr c5
          clear c5
          obtain rfl := Option.some.inj H
          go_enter Try.func33, Try.ntmps33
          go_wp2
          go_ret
          exact ⟨by first | rfl | (simp; done) | (simp [*]; done), by repeat (first | exact Drawn0.refl _ | apply Drawn0.step)⟩
        · rw [if_neg c5] at H
          have c5b0 : (a0 == 4) = false := beq_eq_false_iff_ne.mpr c5
          have c5b1 : (a0 != 4) = true := bne_iff_ne.mpr c5
          by_cases c6 : a0 = 5
          · rw [if_pos c6] at H
            have c6b0 : (a0 == 5) = true := beq_iff_eq.mpr c6
            have c6b1 : (a0 != 5) = false := bne_eq_false_iff_eq.mpr c6
            clear c6
            obtain rfl := Option.some.inj H
            go_enter Try.func33, Try.ntmps33
            go_wp2
            go_ret
            exact ⟨by first | rfl | (simp; done) | (simp [*]; done), by repeat (first | exact Drawn0.refl _ | apply Drawn0.step)⟩
          · rw [if_neg c6] at H
            have c6b0 : (a0 == 5) = false := beq_eq_false_iff_ne.mpr c6
            have c6b1 : (a0 != 5) = true := bne_iff_ne.mpr c6
            by_cases c7 : a0 = 6
            · rw [if_pos c7] at H
              have c7b0 : (a0 == 6) = true := beq_iff_eq.mpr c7
              have c7b1 : (a0 != 6) = false := bne_eq_false_iff_eq.mpr c7
              clear c7
              obtain rfl := Option.some.inj H
              go_enter Try.func33, Try.ntmps33
              go_wp2
              go_ret
              exact ⟨by first | rfl | (simp; done) | (simp [*]; done), by repeat (first | exact Drawn0.refl _ | apply Drawn0.step)⟩
            · rw [if_neg c7] at H
              have c7b0 : (a0 == 6) = false := beq_eq_false_iff_ne.mpr c7
              have c7b1 : (a0 != 6) = true := bne_iff_ne.mpr c7
              by_cases c8 : a0 = 7
              · rw [if_pos c8] at H
                have c8b0 : (a0 == 7) = true := beq_iff_eq.mpr c8
                have c8b1 : (a0 != 7) = false := bne_eq_false_iff_eq.mpr c8
                clear c8
                obtain rfl := Option.some.inj H
                go_enter Try.func33, Try.ntmps33
                go_wp2
                go_ret
                exact ⟨by first | rfl | (simp; done) | (simp [*]; done), by repeat (first | exact Drawn0.refl _ | apply Drawn0.step)⟩
              · rw [if_neg c8] at H
                have c8b0 : (a0 == 7) = false := beq_eq_false_iff_ne.mpr c8
                have c8b1 : (a0 != 7) = true := bne_iff_ne.mpr c8
                by_cases c9 : a0 = 8
                · rw [if_pos c9] at H
                  have c9b0 : (a0 == 8) = true := beq_iff_eq.mpr c9
                  have c9b1 : (a0 != 8) = false := bne_eq_false_iff_eq.mpr c9
                  clear c9
                  obtain rfl := Option.some.inj H
                  go_enter Try.func33, Try.ntmps33
                  go_wp2
                  go_ret
                  exact ⟨by first | rfl | (simp; done) | (simp [*]; done), by repeat (first | exact Drawn0.refl _ | apply Drawn0.step)⟩
                · rw [if_neg c9] at H
                  have c9b0 : (a0 == 8) = false := beq_eq_false_iff_ne.mpr c9
                  have c9b1 : (a0 != 8) = true := bne_iff_ne.mpr c9
                  by_cases c10 : a0 = 9
                  · rw [if_pos c10] at H
                    have c10b0 : (a0 == 9) = true := beq_iff_eq.mpr c10
                    have c10b1 : (a0 != 9) = false := bne_eq_false_iff_eq.mpr c10
                    clear c10
                    obtain rfl := Option.some.inj H
                    go_enter Try.func33, Try.ntmps33
                    go_wp2
                    go_ret
                    exact ⟨by first | rfl | (simp; done) | (simp [*]; done), by repeat (first | exact Drawn0.refl _ | apply Drawn0.step)⟩
                  · rw [if_neg c10] at H
                    have c10b0 : (a0 == 9) = false := beq_eq_false_iff_ne.mpr c10
                    have c10b1 : (a0 != 9) = true := bne_iff_ne.mpr c10
                    by_cases c11 : a0 = 10
                    · rw [if_pos c11] at H
                      have c11b0 : (a0 == 10) = true := beq_iff_eq.mpr c11
                      have c11b1 : (a0 != 10) = false := bne_eq_false_iff_eq.mpr c11
                      clear c11
                      obtain rfl := Option.some.inj H
                      go_enter Try.func33, Try.ntmps33
                      go_wp2
                      go_ret
                      exact ⟨by first | rfl | (simp; done) | (simp [*]; done), by repeat (first | exact Drawn0.refl _ | apply Drawn0.step)⟩
                    · rw [if_neg c11] at H
                      have c11b0 : (a0 == 10) = false := beq_eq_false_iff_ne.mpr c11
                      have c11b1 : (a0 != 10) = true := bne_iff_ne.mpr c11
                      by_cases c12 : a0 = 11
                      · rw [if_pos c12] at H
                        have c12b0 : (a0 == 11) = true := beq_iff_eq.mpr c12
                        have c12b1 : (a0 != 11) = false := bne_eq_false_iff_eq.mpr c12
                        clear c12
                        obtain rfl := Option.some.inj H
                        go_enter Try.func33, Try.ntmps33
                        go_wp2
                        go_ret
                        exact ⟨by first | rfl | (simp; done) | (simp [*]; done), by repeat (first | exact Drawn0.refl _ | apply Drawn0.step)⟩
                      · rw [if_neg c12] at H
                        have c12b0 : (a0 == 11) = false := beq_eq_false_iff_ne.mpr c12
                        have c12b1 : (a0 != 11) = true := bne_iff_ne.mpr c12
                        by_cases c13 : a0 = 12
                        · rw [if_pos c13] at H
                          have c13b0 : (a0 == 12) = true := beq_iff_eq.mpr c13
                          have c13b1 : (a0 != 12) = false := bne_eq_false_iff_eq.mpr c13
                          clear c13
                          obtain rfl := Option.some.inj H
                          go_enter Try.func33, Try.ntmps33
                          go_wp2
                          go_ret
                          exact ⟨by first | rfl | (simp; done) | (simp [*]; done), by repeat (first | exact Drawn0.refl _ | apply Drawn0.step)⟩
                        · rw [if_neg c13] at H
                          have c13b0 : (a0 == 12) = false := beq_eq_false_iff_ne.mpr c13
                          have c13b1 : (a0 != 12) = true := bne_iff_ne.mpr c13
                          by_cases c14 : a0 = 13
                          · rw [if_pos c14] at H
                            have c14b0 : (a0 == 13) = true := beq_iff_eq.mpr c14
                            have c14b1 : (a0 != 13) = false := bne_eq_false_iff_eq.mpr c14
                            clear c14
                            obtain rfl := Option.some.inj H
                            go_enter Try.func33, Try.ntmps33
                            go_wp2
                            go_ret
                            exact ⟨by first | rfl | (simp; done) | (simp [*]; done), by repeat (first | exact Drawn0.refl _ | apply Drawn0.step)⟩
                          · rw [if_neg c14] at H
                            have c14b0 : (a0 == 13) = false := beq_eq_false_iff_ne.mpr c14
                            have c14b1 : (a0 != 13) = true := bne_iff_ne.mpr c14
                            by_cases c15 : a0 = 14
                            · rw [if_pos c15] at H
                              have c15b0 : (a0 == 14) = true := beq_iff_eq.mpr c15
                              have c15b1 : (a0 != 14) = false := bne_eq_false_iff_eq.mpr c15
                              clear c15
                              obtain rfl := Option.some.inj H
                              go_enter Try.func33, Try.ntmps33
                              go_wp2
                              go_ret
                              exact ⟨by first | rfl | (simp; done) | (simp [*]; done), by repeat (first | exact Drawn0.refl _ | apply Drawn0.step)⟩
                            · rw [if_neg c15] at H
                              have c15b0 : (a0 == 14) = false := beq_eq_false_iff_ne.mpr c15
                              have c15b1 : (a0 != 14) = true := bne_iff_ne.mpr c15
                              by_cases c16 : a0 = 15
                              · rw [if_pos c16] at H
                                have c16b0 : (a0 == 15) = true := beq_iff_eq.mpr c16
                                have c16b1 : (a0 != 15) = false := bne_eq_false_iff_eq.mpr c16
                                clear c16
                                obtain rfl := Option.some.inj H
                                go_enter Try.func33, Try.ntmps33
                                go_wp2
                                go_ret
                                exact ⟨by first | rfl | (simp; done) | (simp [*]; done), by repeat (first | exact Drawn0.refl _ | apply Drawn0.step)⟩
                              · rw [if_neg c16] at H
                                have c16b0 : (a0 == 15) = false := beq_eq_false_iff_ne.mpr c16
                                have c16b1 : (a0 != 15) = true := bne_iff_ne.mpr c16
                                by_cases c17 : a0 = 16
                                · rw [if_pos c17] at H
                                  have c17b0 : (a0 == 16) = true := beq_iff_eq.mpr c17
                                  have c17b1 : (a0 != 16) = false := bne_eq_false_iff_eq.mpr c17
                                  clear c17
                                  obtain rfl := Option.some.inj H
                                  go_enter Try.func33, Try.ntmps33
                                  go_wp2
                                  go_ret
                                  exact ⟨by first | rfl | (simp; done) | (simp [*]; done), by repeat (first | exact Drawn0.refl _ | apply Drawn0.step)⟩
                                · rw [if_neg c17] at H
                                  have c17b0 : (a0 == 16) = false := beq_eq_false_iff_ne.mpr c17
                                  have c17b1 : (a0 != 16) = true := bne_iff_ne.mpr c17
                                  by_cases c18 : a0 = 17
                                  · rw [if_pos c18] at H
                                    have c18b0 : (a0 == 17) = true := beq_iff_eq.mpr c18
                                    have c18b1 : (a0 != 17) = false := bne_eq_false_iff_eq.mpr c18
                                    clear c18
                                    obtain rfl := Option.some.inj H
                                    go_enter Try.func33, Try.ntmps33
                                    go_wp2
                                    go_ret
                                    exact ⟨by first | rfl | (simp; done) | (simp [*]; done), by repeat (first | exact Drawn0.refl _ | apply Drawn0.step)⟩
                                  · rw [if_neg c18] at H
                                    have c18b0 : (a0 == 17) = false := beq_eq_false_iff_ne.mpr c18
                                    have c18b1 : (a0 != 17) = true := bne_iff_ne.mpr c18
                                    by_cases c19 : a0 = 18
                                    · rw [if_pos c19] at H
                                      have c19b0 : (a0 == 18) = true := beq_iff_eq.mpr c19
                                      have c19b1 : (a0 != 18) = false := bne_eq_false_iff_eq.mpr c19
                                      clear c19
                                      obtain rfl := Option.some.inj H
                                      go_enter Try.func33, Try.ntmps33
                                      go_wp2
                                      go_ret
                                      exact ⟨by first | rfl | (simp; done) | (simp [*]; done), by repeat (first | exact Drawn0.refl _ | apply Drawn0.step)⟩
                                    · rw [if_neg c19] at H
                                      have c19b0 : (a0 == 18) = false := beq_eq_false_iff_ne.mpr c19
                                      have c19b1 : (a0 != 18) = true := bne_iff_ne.mpr c19
                                      by_cases c20 : a0 = 19
                                      · rw [if_pos c20] at H
                                        have c20b0 : (a0 == 19) = true := beq_iff_eq.mpr c20
                                        have c20b1 : (a0 != 19) = false := bne_eq_false_iff_eq.mpr c20
                                        clear c20
                                        obtain rfl := Option.some.inj H
                                        go_enter Try.func33, Try.ntmps33
                                        go_wp2
                                        go_ret
                                        exact ⟨by first | rfl | (simp; done) | (simp [*]; done), by repeat (first | exact Drawn0.refl _ | apply Drawn0.step)⟩
                                      · rw [if_neg c20] at H
                                        have c20b0 : (a0 == 19) = false := beq_eq_false_iff_ne.mpr c20
                                        have c20b1 : (a0 != 19) = true := bne_iff_ne.mpr c20
                                        by_cases c21 : a0 = 127
                                        · rw [if_pos c21] at H
                                          have c21b0 : (a0 == 127) = true := beq_iff_eq.mpr c21
                                          have c21b1 : (a0 != 127) = false := bne_eq_false_iff_eq.mpr c21
                                          clear c21
                                          obtain rfl := Option.some.inj H
                                          go_enter Try.func33, Try.ntmps33
                                          go_wp2
                                          go_ret
                                          exact ⟨by first | rfl | (simp; done) | (simp [*]; done), by repeat (first | exact Drawn0.refl _ | apply Drawn0.step)⟩
                                        · rw [if_neg c21] at H
                                          have c21b0 : (a0 == 127) = false := beq_eq_false_iff_ne.mpr c21
                                          have c21b1 : (a0 != 127) = true := bne_iff_ne.mpr c21
                                          by_cases c22 : a0 = 255
                                          · rw [if_pos c22] at H
                                            have c22b0 : (a0 == 255) = true := beq_iff_eq.mpr c22
                                            have c22b1 : (a0 != 255) = false := bne_eq_false_iff_eq.mpr c22
                                            clear c22
                                            obtain rfl := Option.some.inj H
                                            go_enter Try.func33, Try.ntmps33
                                            go_wp2
                                            go_ret
                                            exact ⟨by first | rfl | (simp; done) | (simp [*]; done), by repeat (first | exact Drawn0.refl _ | apply Drawn0.step)⟩
                                          · rw [if_neg c22] at H
                                            have c22b0 : (a0 == 255) = false := beq_eq_false_iff_ne.mpr c22
                                            have c22b1 : (a0 != 255) = true := bne_iff_ne.mpr c22
                                            obtain rfl := Option.some.inj H
                                            go_enter Try.func33, Try.ntmps33
                                            go_wp2
                                            go_ret
                                            exact ⟨by first | rfl | (simp; done) | (simp [*]; done), by repeat (first | exact Drawn0.refl _ | apply Drawn0.step)⟩

/-! ### bson_Type_String: function 21 -/
def bson_Type_String.f (a0 : Int) : Option (ByteArray) := (bsoncore_Type_String.f a0).bind fun t101 => (some t101)
set_option maxHeartbeats 8000000 in
set_option maxRecDepth 100000 in
theorem bson_Type_String.calls (a0 : Int) (r : ByteArray) (w : World) (h : bson_Type_String.f a0 = some r) :
    Calls Try.prog 21 #[.int .u8 a0] w fun e w' => e = .returned (.string r) ∧ Drawn0 w w' := by
  have H : ((bsoncore_Type_String.f a0).bind fun t101 => (some t101)) = some r := h
  clear h
  replace H := Option.bind_eq_some_iff.mp H
  obtain ⟨t101, A20, H⟩ := H
  replace H : (some t101) = some r := H
  have A2 := Aside0.mk A20
  clear A20
  obtain rfl := Option.some.inj H
  go_enter Try.func21, Try.ntmps21
  go_wp2_with (first | ((with_reducible refine gate_callee (f := 33) rfl ?_); refine goesL_ (some 4) rfl rfl Try.func33 (by kernel_rfl) rfl #[.int .u8 a0] rfl (by (try simp only [List.map_toArray, List.map_cons, List.map_nil]); first | done | rfl | (simp only [List.length_drop, List.length_take]; rfl)) ?_; (with_reducible refine (bsoncore_Type_String.calls a0 t101 _ A2.out).mono ?_); rintro e w' ⟨rfl, ⟨nd, rfl⟩⟩; refine ⟨_, rfl, ?_⟩))
  go_ret
  exact ⟨by first | rfl | (simp; done) | (simp [*]; done), by repeat (first | exact Drawn0.refl _ | apply Drawn0.step)⟩

/-! ### impl_KindText: function 7 -/
def impl_KindText.f (a0 : Int) : Option (ByteArray) := (bson_Type_String.f ((a0) % 256)).bind fun t102 => (some t102)
set_option maxHeartbeats 8000000 in
set_option maxRecDepth 100000 in
theorem impl_KindText.calls (a0 : Int) (r : ByteArray) (w : World) (h : impl_KindText.f a0 = some r) :
    Calls Try.prog 7 #[.int .i64 a0] w fun e w' => e = .returned (.string r) ∧ Drawn0 w w' := by
  have H : ((bson_Type_String.f ((a0) % 256)).bind fun t102 => (some t102)) = some r := h
  clear h
  replace H := Option.bind_eq_some_iff.mp H
  obtain ⟨t102, A20, H⟩ := H
  replace H : (some t102) = some r := H
  have A2 := Aside0.mk A20
  clear A20
  obtain rfl := Option.some.inj H
  go_enter Try.func7, Try.ntmps7
  go_wp2_with (first | ((with_reducible refine gate_callee (f := 21) rfl ?_); refine goesL_ (some 5) rfl rfl Try.func21 (by kernel_rfl) rfl #[.int .u8 ((a0) % 256)] rfl (by (try simp only [List.map_toArray, List.map_cons, List.map_nil]); first | done | rfl | (simp only [List.length_drop, List.length_take]; rfl)) ?_; (with_reducible refine (bson_Type_String.calls ((a0) % 256) t102 _ A2.out).mono ?_); rintro e w' ⟨rfl, ⟨nd, rfl⟩⟩; refine ⟨_, rfl, ?_⟩))
  go_ret
  exact ⟨by first | rfl | (simp; done) | (simp [*]; done), by repeat (first | exact Drawn0.refl _ | apply Drawn0.step)⟩

/-! ### laws_FnBindNames: function 3 -/
def laws_FnBindNames.j0 : Nat → Int → Int → Bool → Option (Bool)
  | 0, _, _, _ => none
  | k + 1, x0, x1, x16 => if x16 = true then (some true) else ((impl_KindText.f (wrap64 (x0))).bind fun t105 => ((impl_KindText.f (wrap64 (x1))).bind fun t106 => (if t105.toList = ([] : List UInt8) then (some false) else (some ((t105.toList == t106.toList) == (x0 == x1))))))
def laws_FnBindNames.f (k : Nat) (a0 : Int) (a1 : Int) : Option (Bool) := (spec_DocKnown.f (wrap64 (a0))).bind fun t103 => (if t103 = true then ((spec_DocKnown.f (wrap64 (a1))).bind fun t104 => (laws_FnBindNames.j0 k a0 a1 (!t104))) else (laws_FnBindNames.j0 k a0 a1 true))
theorem laws_FnBindNames.mono_l : ∀ k, (∀ y0 y1 y2, LeO (laws_FnBindNames.j0 k y0 y1 y2) (laws_FnBindNames.j0 (k + 1) y0 y1 y2))
  | 0 => fun _ _ _ r h => by simp [laws_FnBindNames.j0] at h
  | k + 1 => by
    have ih0 := laws_FnBindNames.mono_l k
    · intro y0 y1 y2
      unfold laws_FnBindNames.j0
      repeat' first
      | (with_reducible exact ih0 _ _ _)
      | (with_reducible exact LeO.refl _)
      | (with_reducible exact LeO.none _)
      | (with_reducible refine LeO.ite ?_ ?_)
      | (with_reducible refine LeO.bind ?_ (fun _ => ?_))
      | exact ih0 _ _ _
      | exact LeO.none _
      | refine LeO.ite ?_ ?_
      | refine LeO.bind ?_ (fun _ => ?_)
theorem laws_FnBindNames.mono : ∀ a0 a1 k, LeO (laws_FnBindNames.f k a0 a1) (laws_FnBindNames.f (k + 1) a0 a1) := by
  intro a0 a1 k
  have ih0 := laws_FnBindNames.mono_l k
  unfold laws_FnBindNames.f
  repeat' first
      | (with_reducible exact ih0 _ _ _)
      | (with_reducible exact LeO.refl _)
      | (with_reducible exact LeO.none _)
      | (with_reducible refine LeO.ite ?_ ?_)
      | (with_reducible refine LeO.bind ?_ (fun _ => ?_))
      | exact ih0 _ _ _
      | exact LeO.none _
      | refine LeO.ite ?_ ?_
      | refine LeO.bind ?_ (fun _ => ?_)
set_option maxHeartbeats 8000000 in
set_option maxRecDepth 100000 in
theorem laws_FnBindNames.calls (k : Nat) (a0 : Int) (a1 : Int) (r : Bool) (w : World) (h : laws_FnBindNames.f k a0 a1 = some r) :
    Calls Try.prog 3 #[.int .u8 a0, .int .u8 a1] w fun e w' => e = .returned (.bool r) ∧ Drawn0 w w' := by
  have H : ((spec_DocKnown.f (wrap64 (a0))).bind fun t103 => (if t103 = true then ((spec_DocKnown.f (wrap64 (a1))).bind fun t104 => (laws_FnBindNames.j0 k a0 a1 (!t104))) else (laws_FnBindNames.j0 k a0 a1 true))) = some r := h
  clear h
  have HC3 := Aside0.mk H
  clear H
  go_enter Try.func3, Try.ntmps3
  go_upto_region 1 with (fail)
  go_cut [16] (fun v16 wc => ∃ (kq : Nat) (x16_2 : Bool), v16 = .bool x16_2 ∧ Aside0 (laws_FnBindNames.j0 kq a0 a1 x16_2 = some r) ∧ Aside0 (kq ≤ k) ∧ Drawn0 w wc)
  case first =>
    have H := HC3.out
    clear HC3
    replace H := Option.bind_eq_some_iff.mp H
    obtain ⟨t103, A40, H⟩ := H
    replace H : (if t103 = true then ((spec_DocKnown.f (wrap64 (a1))).bind fun t104 => (laws_FnBindNames.j0 k a0 a1 (!t104))) else (laws_FnBindNames.j0 k a0 a1 true)) = some r := H
    have A4 := Aside0.mk A40
    clear A40
    by_cases c5 : t103 = true
    · subst c5
      have H1 : ((spec_DocKnown.f (wrap64 (a1))).bind fun t104 => (laws_FnBindNames.j0 k a0 a1 (!t104))) = some r := by rw [if_pos rfl] at H; exact H
      clear H
      have H := H1
      clear H1
      replace H := Option.bind_eq_some_iff.mp H
      obtain ⟨t104, A60, H⟩ := H
      replace H : (laws_FnBindNames.j0 k a0 a1 (!t104)) = some r := H
      have A6 := Aside0.mk A60
      clear A60
      have H' := Aside0.mk H
      clear H
      go_wp2_with (first | ((with_reducible refine gate_callee (f := 6) rfl ?_); refine goesL_ (some 9) rfl rfl Try.func6 (by kernel_rfl) rfl #[.int .i64 (wrap64 (a0))] rfl (by (try simp only [List.map_toArray, List.map_cons, List.map_nil]); first | done | rfl | (simp only [List.length_drop, List.length_take]; rfl)) ?_; (with_reducible refine (spec_DocKnown.calls (wrap64 (a0)) true _ A4.out).mono ?_); rintro e w' ⟨rfl, ⟨nd, rfl⟩⟩; refine ⟨_, rfl, ?_⟩) | (go_at_call 6; (with_reducible refine (spec_DocKnown.calls (wrap64 (a1)) t104 _ A6.out).mono ?_); rintro e w' ⟨rfl, ⟨nd, rfl⟩⟩))
      go_meet
      case rel => exact ⟨_, (!t104), (by first | rfl | (simp; done) | (simp [*]; done)), H', ⟨by first | omega | exact Nat.le_refl _⟩, by repeat (first | exact Drawn0.refl _ | apply Drawn0.step)⟩
    · replace c5 := Bool.eq_false_iff.mpr c5
      subst c5
      have H1 : (laws_FnBindNames.j0 k a0 a1 true) = some r := by rw [if_neg (show ¬ (false = true) by decide)] at H; exact H
      clear H
      have H := H1
      clear H1
      have H' := Aside0.mk H
      clear H
      go_wp2_with (first | ((with_reducible refine gate_callee (f := 6) rfl ?_); refine goesL_ (some 9) rfl rfl Try.func6 (by kernel_rfl) rfl #[.int .i64 (wrap64 (a0))] rfl (by (try simp only [List.map_toArray, List.map_cons, List.map_nil]); first | done | rfl | (simp only [List.length_drop, List.length_take]; rfl)) ?_; (with_reducible refine (spec_DocKnown.calls (wrap64 (a0)) false _ A4.out).mono ?_); rintro e w' ⟨rfl, ⟨nd, rfl⟩⟩; refine ⟨_, rfl, ?_⟩))
      go_meet
      case rel => exact ⟨_, (true), (by first | rfl | (simp; done) | (simp [*]; done)), H', ⟨by first | omega | exact Nat.le_refl _⟩, by repeat (first | exact Drawn0.refl _ | apply Drawn0.step)⟩
  case rest =>
    clear HC3
    try clear p2
    try clear c3
    try clear c5
    try clear c6
    try clear p6
    obtain ⟨kq, x16_2, rfl, HA, HJ2, ⟨mc2, rfl⟩⟩ := hcut
    cases kq with
    | zero => exact absurd HA.out (by simp [laws_FnBindNames.j0])
    | succ kj2 =>
      have H := HA.out
      clear HA
      simp only [laws_FnBindNames.j0] at H
      by_cases c7 : x16_2 = true
      · subst c7
        have H1 : (some true) = some r := by rw [if_pos rfl] at H; exact H
        clear H
        have H := H1
        clear H1
        obtain rfl := Option.some.inj H
        go_wp2
        go_ret
        exact ⟨by first | rfl | (simp; done) | (simp [*]; done), by repeat (first | exact Drawn0.refl _ | apply Drawn0.step)⟩
      · replace c7 := Bool.eq_false_iff.mpr c7
        subst c7
        have H1 : ((impl_KindText.f (wrap64 (a0))).bind fun t105 => ((impl_KindText.f (wrap64 (a1))).bind fun t106 => (if t105.toList = ([] : List UInt8) then (some false) else (some ((t105.toList == t106.toList) == (a0 == a1)))))) = some r := by rw [if_neg (show ¬ (false = true) by decide)] at H; exact H
        clear H
        have H := H1
        clear H1
        replace H := Option.bind_eq_some_iff.mp H
        obtain ⟨t105, A80, H⟩ := H
        replace H : ((impl_KindText.f (wrap64 (a1))).bind fun t106 => (if t105.toList = ([] : List UInt8) then (some false) else (some ((t105.toList == t106.toList) == (a0 == a1))))) = some r := H
        have A8 := Aside0.mk A80
        clear A80
        replace H := Option.bind_eq_some_iff.mp H
        obtain ⟨t106, A90, H⟩ := H
        replace H : (if t105.toList = ([] : List UInt8) then (some false) else (some ((t105.toList == t106.toList) == (a0 == a1)))) = some r := H
        have A9 := Aside0.mk A90
        clear A90
        by_cases c10 : t105.toList = ([] : List UInt8)
        · rw [if_pos c10] at H
          have c10b0 : (t105.toList == ([] : List UInt8)) = true := beq_iff_eq.mpr c10
          have c10b1 : (t105.toList != ([] : List UInt8)) = false := bne_eq_false_iff_eq.mpr c10
          clear c10
          obtain rfl := Option.some.inj H
          go_wp2_with (first | ((with_reducible refine gate_callee (f := 7) rfl ?_); refine goesL_ (some 19) rfl rfl Try.func7 (by kernel_rfl) rfl #[.int .i64 (wrap64 (a0))] rfl (by (try simp only [List.map_toArray, List.map_cons, List.map_nil]); first | done | rfl | (simp only [List.length_drop, List.length_take]; rfl)) ?_; (with_reducible refine (impl_KindText.calls (wrap64 (a0)) t105 _ A8.out).mono ?_); rintro e w' ⟨rfl, ⟨nd, rfl⟩⟩; refine ⟨_, rfl, ?_⟩) | ((with_reducible refine gate_callee (f := 7) rfl ?_); refine goesL_ (some 22) rfl rfl Try.func7 (by kernel_rfl) rfl #[.int .i64 (wrap64 (a1))] rfl (by (try simp only [List.map_toArray, List.map_cons, List.map_nil]); first | done | rfl | (simp only [List.length_drop, List.length_take]; rfl)) ?_; (with_reducible refine (impl_KindText.calls (wrap64 (a1)) t106 _ A9.out).mono ?_); rintro e w' ⟨rfl, ⟨nd, rfl⟩⟩; refine ⟨_, rfl, ?_⟩))
          go_ret
          exact ⟨by first | rfl | (simp; done) | (simp [*]; done), by repeat (first | exact Drawn0.refl _ | apply Drawn0.step)⟩
        · rw [if_neg c10] at H
          have c10b0 : (t105.toList == ([] : List UInt8)) = false := beq_eq_false_iff_ne.mpr c10
          have c10b1 : (t105.toList != ([] : List UInt8)) = true := bne_iff_ne.mpr c10
          obtain rfl := Option.some.inj H
          go_wp2_with (first | ((with_reducible refine gate_callee (f := 7) rfl ?_); refine goesL_ (some 19) rfl rfl Try.func7 (by kernel_rfl) rfl #[.int .i64 (wrap64 (a0))] rfl (by (try simp only [List.map_toArray, List.map_cons, List.map_nil]); first | done | rfl | (simp only [List.length_drop, List.length_take]; rfl)) ?_; (with_reducible refine (impl_KindText.calls (wrap64 (a0)) t105 _ A8.out).mono ?_); rintro e w' ⟨rfl, ⟨nd, rfl⟩⟩; refine ⟨_, rfl, ?_⟩) | ((with_reducible refine gate_callee (f := 7) rfl ?_); refine goesL_ (some 22) rfl rfl Try.func7 (by kernel_rfl) rfl #[.int .i64 (wrap64 (a1))] rfl (by (try simp only [List.map_toArray, List.map_cons, List.map_nil]); first | done | rfl | (simp only [List.length_drop, List.length_take]; rfl)) ?_; (with_reducible refine (impl_KindText.calls (wrap64 (a1)) t106 _ A9.out).mono ?_); rintro e w' ⟨rfl, ⟨nd, rfl⟩⟩; refine ⟨_, rfl, ?_⟩))
          go_ret
          exact ⟨by first | rfl | (simp; done) | (simp [*]; done), by repeat (first | exact Drawn0.refl _ | apply Drawn0.step)⟩

/-- THE ONE PURE STATEMENT of laws_FnBindNames: yours. -/
def laws_FnBindNames.Pure : Prop := ∀ (a0 : Int) (a1 : Int), (Lit.int .u8 a0).wf = true → (Lit.int .u8 a1).wf = true → ∃ k, laws_FnBindNames.f k a0 a1 = some true
theorem laws_FnBindNames.walk (P : laws_FnBindNames.Pure) (a0 : Int) (a1 : Int) (w : World) (w0 : (Lit.int .u8 a0).wf = true) (w1 : (Lit.int .u8 a1).wf = true) :
    Calls Try.prog 3 #[.int .u8 a0, .int .u8 a1] w fun e w' => e = .returned (.bool true) ∧ Below w.heap.size w w' := by
  obtain ⟨k, h⟩ := P a0 a1 w0 w1
  refine (laws_FnBindNames.calls k a0 a1 true w h).mono ?_
  rintro e w' ⟨rfl, hd⟩
  exact ⟨rfl, hd.below⟩

end Go.Proofs.Ytfpnhlfmnoikhab.PFnBindNames
