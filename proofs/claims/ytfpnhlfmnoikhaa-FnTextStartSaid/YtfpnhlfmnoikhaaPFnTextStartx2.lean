-- PRINTED BY print.sh 35421559b90ae4d0a3588c463048766b98c2df88dd9212a6774a882060cdf62d: not written by this session
import Derived.Test.YtfpnhlfmnoikhaaPFnTextStartx0
import Derived.Test.YtfpnhlfmnoikhaaPFnTextStartx1
namespace Go.Proofs.Ytfpnhlfmnoikhaa.PFnTextStart
open Go.RowKit Go.Proofs.YtfpnhlfmnoikhaaW.PrintWords Go.Proofs.YtfpnhlfmnoikhaaW.PrintLast Go.Proofs.YtfpnhlfmnoikhaaW.PrintMore
attribute [local go_sem] max2_int min2_int max_two min_two max_three min_three max_four min_four   -- for this text's walks alone
set_option linter.unusedVariables false
set_option linter.unusedSimpArgs false

/-! ### bsoncoreutil_Truncate: function 44 -/
def bsoncoreutil_Truncate.l0 : Nat → ByteArray → Int → Option (ByteArray)
  | 0, _, _ => none
  | k + 1, x0, x5 => if x5 > 0 then (if 0 ≤ x5 then (if x5 < (x0.size : Int) then ((utf8_RuneStart.f (bt x0 x5)).bind fun t105 => (if t105 = true then (if x5 ≤ (x0.size : Int) then (some (x0.extract 0 (x5 : Int).toNat)) else (none)) else (bsoncoreutil_Truncate.l0 k x0 (wrap64 (x5 - 1))))) else (none)) else (none)) else (if 0 ≤ x5 then (if x5 ≤ (x0.size : Int) then (some (x0.extract 0 (x5 : Int).toNat)) else (none)) else (none))
def bsoncoreutil_Truncate.f (k : Nat) (a0 : ByteArray) (a1 : Int) : Option (ByteArray) := if a1 ≤ 0 then (some (⟨#[]⟩ : ByteArray)) else (if (a0.size : Int) ≤ a1 then (some a0) else (if 0 ≤ a1 then (if a1 < (a0.size : Int) then ((utf8_RuneStart.f (bt a0 a1)).bind fun t104 => (if t104 = true then (if a1 ≤ (a0.size : Int) then (some (a0.extract 0 (a1 : Int).toNat)) else (none)) else (bsoncoreutil_Truncate.l0 k a0 a1))) else (none)) else (none)))
theorem bsoncoreutil_Truncate.mono_l : ∀ k, (∀ y0 y1, LeO (bsoncoreutil_Truncate.l0 k y0 y1) (bsoncoreutil_Truncate.l0 (k + 1) y0 y1))
  | 0 => fun _ _ r h => by simp [bsoncoreutil_Truncate.l0] at h
  | k + 1 => by
    have ih0 := bsoncoreutil_Truncate.mono_l k
    · intro y0 y1
      unfold bsoncoreutil_Truncate.l0
      repeat' first
      | (with_reducible exact ih0 _ _)
      | (with_reducible exact LeO.refl _)
      | (with_reducible exact LeO.none _)
      | (with_reducible refine LeO.ite ?_ ?_)
      | (with_reducible refine LeO.bind ?_ (fun _ => ?_))
      | exact ih0 _ _
      | exact LeO.none _
      | refine LeO.ite ?_ ?_
      | refine LeO.bind ?_ (fun _ => ?_)
theorem bsoncoreutil_Truncate.mono : ∀ a0 a1 k, LeO (bsoncoreutil_Truncate.f k a0 a1) (bsoncoreutil_Truncate.f (k + 1) a0 a1) := by
  intro a0 a1 k
  have ih0 := bsoncoreutil_Truncate.mono_l k
  unfold bsoncoreutil_Truncate.f
  repeat' first
      | (with_reducible exact ih0 _ _)
      | (with_reducible exact LeO.refl _)
      | (with_reducible exact LeO.none _)
      | (with_reducible refine LeO.ite ?_ ?_)
      | (with_reducible refine LeO.bind ?_ (fun _ => ?_))
      | exact ih0 _ _
      | exact LeO.none _
      | refine LeO.ite ?_ ?_
      | refine LeO.bind ?_ (fun _ => ?_)
set_option maxHeartbeats 8000000 in
set_option maxRecDepth 100000 in
theorem bsoncoreutil_Truncate.calls (k : Nat) (a0 : ByteArray) (a1 : Int) (r : ByteArray) (w : World) (h : bsoncoreutil_Truncate.f k a0 a1 = some r) :
    Calls Try.prog 44 #[.string a0, .int .i64 a1] w fun e w' => e = .returned (.string r) ∧ Drawn0 w w' := by
  have H : (if a1 ≤ 0 then (some (⟨#[]⟩ : ByteArray)) else (if (a0.size : Int) ≤ a1 then (some a0) else (if 0 ≤ a1 then (if a1 < (a0.size : Int) then ((utf8_RuneStart.f (bt a0 a1)).bind fun t104 => (if t104 = true then (if a1 ≤ (a0.size : Int) then (some (a0.extract 0 (a1 : Int).toNat)) else (none)) else (bsoncoreutil_Truncate.l0 k a0 a1))) else (none)) else (none)))) = some r := h
  clear h
  by_cases c3 : a1 ≤ 0
  · rw [if_pos c3] at H
    have c3b0 : decide (a1 ≤ 0) = true := decide_eq_true c3
    clear c3
    obtain rfl := Option.some.inj H
    go_enter Try.func44, Try.ntmps44
    go_wp2
    go_ret
    exact ⟨by first | rfl | (simp; done) | (simp [*]; done), by repeat (first | exact Drawn0.refl _ | apply Drawn0.step)⟩
  · rw [if_neg c3] at H
    have c3b0 : decide (a1 ≤ 0) = false := decide_eq_false c3
    clear c3
    by_cases c4 : (a0.size : Int) ≤ a1
    · rw [if_pos c4] at H
      have c4b0 : decide ((a0.size : Int) ≤ a1) = true := decide_eq_true c4
      clear c4
      obtain rfl := Option.some.inj H
      go_enter Try.func44, Try.ntmps44
      go_wp2
      go_ret
      exact ⟨by first | rfl | (simp; done) | (simp [*]; done), by repeat (first | exact Drawn0.refl _ | apply Drawn0.step)⟩
    · rw [if_neg c4] at H
      have c4b0 : decide ((a0.size : Int) ≤ a1) = false := decide_eq_false c4
      clear c4
      by_cases c5 : 0 ≤ a1
      · rw [if_pos c5] at H
        have c5b0 : decide (0 ≤ a1) = true := decide_eq_true c5
        clear c5
        by_cases c6 : a1 < (a0.size : Int)
        · rw [if_pos c6] at H
          have c6b0 : decide (a1 < (a0.size : Int)) = true := decide_eq_true c6
          clear c6
          replace H := Option.bind_eq_some_iff.mp H
          obtain ⟨t104, A80, H⟩ := H
          replace H : (if t104 = true then (if a1 ≤ (a0.size : Int) then (some (a0.extract 0 (a1 : Int).toNat)) else (none)) else (bsoncoreutil_Truncate.l0 k a0 a1)) = some r := H
          have A8 := Aside0.mk A80
          clear A80
          by_cases c9 : t104 = true
          · subst c9
            have H1 : (if a1 ≤ (a0.size : Int) then (some (a0.extract 0 (a1 : Int).toNat)) else (none)) = some r := by rw [if_pos rfl] at H; exact H
            clear H
            have H := H1
            clear H1
            have c10b0 := eq_true (of_decide_eq_true (by first | (with_reducible assumption) | assumption) : 0 ≤ a1)
            by_cases c11 : a1 ≤ (a0.size : Int)
            · rw [if_pos c11] at H
              have c11b0 := eq_true c11
              have c11b1 : decide (a1 ≤ (a0.size : Int)) = true := decide_eq_true c11
              clear c11
              obtain rfl := Option.some.inj H
              have p7 : 0 ≤ (a1 : Int) := of_decide_eq_true (by first | (with_reducible assumption) | assumption)
              have q7 : a1 < (a0.size : Int) := of_decide_eq_true (by first | (with_reducible assumption) | assumption)
              have hx7 := bt_at a0 a1
              replace p7 := eq_true p7
              replace q7 := eq_true q7
              go_enter Try.func44, Try.ntmps44
              go_wp2_with (first | ((with_reducible refine gate_callee (f := 62) rfl ?_); refine goesL_ (some 16) rfl rfl Try.func62 (by kernel_rfl) rfl #[.int .u8 (bt a0 a1)] rfl (by (try simp only [List.map_toArray, List.map_cons, List.map_nil]); first | done | rfl | (simp only [List.length_drop, List.length_take]; rfl)) ?_; (with_reducible refine (utf8_RuneStart.calls (bt a0 a1) true _ A8.out).mono ?_); rintro e w' ⟨rfl, ⟨nd, rfl⟩⟩; refine ⟨_, rfl, ?_⟩))
              go_ret
              exact ⟨by first | rfl | (simp; done) | (simp [*]; done), by repeat (first | exact Drawn0.refl _ | apply Drawn0.step)⟩
            · rw [if_neg c11] at H
              exact absurd H (by simp)
          · replace c9 := Bool.eq_false_iff.mpr c9
            subst c9
            have H1 : (bsoncoreutil_Truncate.l0 k a0 a1) = some r := by rw [if_neg (show ¬ (false = true) by decide)] at H; exact H
            clear H
            have H := H1
            clear H1
            have H' := Aside0.mk H
            clear H
            have p7 : 0 ≤ (a1 : Int) := of_decide_eq_true (by first | (with_reducible assumption) | assumption)
            have q7 : a1 < (a0.size : Int) := of_decide_eq_true (by first | (with_reducible assumption) | assumption)
            have hx7 := bt_at a0 a1
            replace p7 := eq_true p7
            replace q7 := eq_true q7
            go_enter Try.func44, Try.ntmps44
            go_wp2_with (first | ((with_reducible refine gate_callee (f := 62) rfl ?_); refine goesL_ (some 16) rfl rfl Try.func62 (by kernel_rfl) rfl #[.int .u8 (bt a0 a1)] rfl (by (try simp only [List.map_toArray, List.map_cons, List.map_nil]); first | done | rfl | (simp only [List.length_drop, List.length_take]; rfl)) ?_; (with_reducible refine (utf8_RuneStart.calls (bt a0 a1) false _ A8.out).mono ?_); rintro e w' ⟨rfl, ⟨nd, rfl⟩⟩; refine ⟨_, rfl, ?_⟩))
            go_loopg [5] k (fun kq v5 w' => ∃ (x5_1 : Int), v5 = .int .i64 x5_1 ∧ Aside0 (bsoncoreutil_Truncate.l0 kq a0 x5_1 = some r) ∧ Aside0 (kq ≤ k) ∧ Drawn0 w w')
            case atStart => exact ⟨(a1), (by first | rfl | (simp; done) | (simp [*]; done)), H', ⟨Nat.le_refl _⟩, by repeat (first | exact Drawn0.refl _ | apply Drawn0.step)⟩
            case round =>
              clear H'
              try clear c1
              try clear p2
              try clear c3
              try clear c3b0
              try clear c4
              try clear c4b0
              try clear c5
              try clear c5b0
              try clear c6
              try clear c6b0
              try clear p7
              try clear q7
              try clear hx7
              try clear c9
              try clear c10
              try clear c10b0
              try clear c11
              try clear c11b0
              try clear c11b1
              try clear p7
              try clear q7
              obtain ⟨x5_1, rfl, HA, HK1, ⟨m1, rfl⟩⟩ := hrel
              cases gk with
              | zero => exact absurd HA.out (by simp [bsoncoreutil_Truncate.l0])
              | succ k1 =>
                have H := HA.out
                clear HA
                simp only [bsoncoreutil_Truncate.l0] at H
                by_cases c12 : x5_1 > 0
                · rw [if_pos c12] at H
                  have c12b0 : decide (0 < x5_1) = true := decide_eq_true c12
                  clear c12
                  by_cases c13 : 0 ≤ x5_1
                  · rw [if_pos c13] at H
                    have c13b0 : decide (0 ≤ x5_1) = true := decide_eq_true c13
                    clear c13
                    by_cases c14 : x5_1 < (a0.size : Int)
                    · rw [if_pos c14] at H
                      have c14b0 : decide (x5_1 < (a0.size : Int)) = true := decide_eq_true c14
                      clear c14
                      replace H := Option.bind_eq_some_iff.mp H
                      obtain ⟨t105, A160, H⟩ := H
                      replace H : (if t105 = true then (if x5_1 ≤ (a0.size : Int) then (some (a0.extract 0 (x5_1 : Int).toNat)) else (none)) else (bsoncoreutil_Truncate.l0 k1 a0 (wrap64 (x5_1 - 1)))) = some r := H
                      have A16 := Aside0.mk A160
                      clear A160
                      by_cases c17 : t105 = true
                      · subst c17
                        have H1 : (if x5_1 ≤ (a0.size : Int) then (some (a0.extract 0 (x5_1 : Int).toNat)) else (none)) = some r := by rw [if_pos rfl] at H; exact H
                        clear H
                        have H := H1
                        clear H1
                        have c18b0 := eq_true (of_decide_eq_true (by first | (with_reducible assumption) | assumption) : 0 ≤ x5_1)
                        by_cases c19 : x5_1 ≤ (a0.size : Int)
                        · rw [if_pos c19] at H
                          have c19b0 := eq_true c19
                          have c19b1 : decide (x5_1 ≤ (a0.size : Int)) = true := decide_eq_true c19
                          clear c19
                          obtain rfl := Option.some.inj H
                          have p15 : 0 ≤ (x5_1 : Int) := of_decide_eq_true (by first | (with_reducible assumption) | assumption)
                          have q15 : x5_1 < (a0.size : Int) := of_decide_eq_true (by first | (with_reducible assumption) | assumption)
                          have hx15 := bt_at a0 x5_1
                          replace p15 := eq_true p15
                          replace q15 := eq_true q15
                          go_wp2_with (first | (go_at_call 62; (with_reducible refine (utf8_RuneStart.calls (bt a0 x5_1) true _ A16.out).mono ?_); rintro e w' ⟨rfl, ⟨nd, rfl⟩⟩))
                          go_ret
                          exact ⟨by first | rfl | (simp; done) | (simp [*]; done), by repeat (first | exact Drawn0.refl _ | apply Drawn0.step)⟩
                        · rw [if_neg c19] at H
                          exact absurd H (by simp)
                      · replace c17 := Bool.eq_false_iff.mpr c17
                        subst c17
                        have H1 : (bsoncoreutil_Truncate.l0 k1 a0 (wrap64 (x5_1 - 1))) = some r := by rw [if_neg (show ¬ (false = true) by decide)] at H; exact H
                        clear H
                        have H := H1
                        clear H1
                        have H' := Aside0.mk H
                        clear H
                        have p15 : 0 ≤ (x5_1 : Int) := of_decide_eq_true (by first | (with_reducible assumption) | assumption)
                        have q15 : x5_1 < (a0.size : Int) := of_decide_eq_true (by first | (with_reducible assumption) | assumption)
                        have hx15 := bt_at a0 x5_1
                        replace p15 := eq_true p15
                        replace q15 := eq_true q15
                        go_wp2_with (first | (go_at_call 62; (with_reducible refine (utf8_RuneStart.calls (bt a0 x5_1) false _ A16.out).mono ?_); rintro e w' ⟨rfl, ⟨nd, rfl⟩⟩))
                        go_roundg k1
                        case measure => have := HK1.out; omega
                        case rel => exact ⟨(wrap64 (x5_1 - 1)), (by first | rfl | (simp; done) | (simp [*]; done)), H', ⟨by have := HK1.out; omega⟩, by repeat (first | exact Drawn0.refl _ | apply Drawn0.step)⟩
                    · rw [if_neg c14] at H
                      exact absurd H (by simp)
                  · rw [if_neg c13] at H
                    exact absurd H (by simp)
                · rw [if_neg c12] at H
                  have c12b0 : decide (0 < x5_1) = false := decide_eq_false c12
                  clear c12
                  by_cases c20 : 0 ≤ x5_1
                  · rw [if_pos c20] at H
                    have c20b0 := eq_true c20
                    have c20b1 : decide (0 ≤ x5_1) = true := decide_eq_true c20
                    clear c20
                    by_cases c21 : x5_1 ≤ (a0.size : Int)
                    · rw [if_pos c21] at H
                      have c21b0 := eq_true c21
                      have c21b1 : decide (x5_1 ≤ (a0.size : Int)) = true := decide_eq_true c21
                      clear c21
                      obtain rfl := Option.some.inj H
                      go_wp2
                      go_ret
                      exact ⟨by first | rfl | (simp; done) | (simp [*]; done), by repeat (first | exact Drawn0.refl _ | apply Drawn0.step)⟩
                    · rw [if_neg c21] at H
                      exact absurd H (by simp)
                  · rw [if_neg c20] at H
                    exact absurd H (by simp)
        · rw [if_neg c6] at H
          exact absurd H (by simp)
      · rw [if_neg c5] at H
        exact absurd H (by simp)

/-! ### impl_CutText: function 24 -/
def impl_CutText.f (k : Nat) (a0 : ByteArray) (a1 : Int) : Option (ByteArray) := (bsoncoreutil_Truncate.f k a0 a1).bind fun t106 => (some t106)
theorem impl_CutText.mono : ∀ a0 a1 k, LeO (impl_CutText.f k a0 a1) (impl_CutText.f (k + 1) a0 a1) := by
  intro a0 a1 k
  unfold impl_CutText.f
  repeat' first
      | (with_reducible exact bsoncoreutil_Truncate.mono _ _ _)
      | (with_reducible exact LeO.refl _)
      | (with_reducible exact LeO.none _)
      | (with_reducible refine LeO.ite ?_ ?_)
      | (with_reducible refine LeO.bind ?_ (fun _ => ?_))
      | exact bsoncoreutil_Truncate.mono _ _ _
      | exact LeO.none _
      | refine LeO.ite ?_ ?_
      | refine LeO.bind ?_ (fun _ => ?_)
set_option maxHeartbeats 8000000 in
set_option maxRecDepth 100000 in
theorem impl_CutText.calls (k : Nat) (a0 : ByteArray) (a1 : Int) (r : ByteArray) (w : World) (h : impl_CutText.f k a0 a1 = some r) :
    Calls Try.prog 24 #[.string a0, .int .i64 a1] w fun e w' => e = .returned (.string r) ∧ Drawn0 w w' := by
  have H : ((bsoncoreutil_Truncate.f k a0 a1).bind fun t106 => (some t106)) = some r := h
  clear h
  replace H := Option.bind_eq_some_iff.mp H
  obtain ⟨t106, A30, H⟩ := H
  replace H : (some t106) = some r := H
  have A3 := Aside0.mk A30
  clear A30
  obtain rfl := Option.some.inj H
  go_enter Try.func24, Try.ntmps24
  go_wp2_with (first | ((with_reducible refine gate_callee (f := 44) rfl ?_); refine goesL_ (some 7) rfl rfl Try.func44 (by kernel_rfl) rfl #[.string a0, .int .i64 a1] rfl (by (try simp only [List.map_toArray, List.map_cons, List.map_nil]); first | done | rfl | (simp only [List.length_drop, List.length_take]; rfl)) ?_; (with_reducible refine (bsoncoreutil_Truncate.calls k a0 a1 t106 _ A3.out).mono ?_); rintro e w' ⟨rfl, ⟨nd, rfl⟩⟩; refine ⟨_, rfl, ?_⟩))
  go_ret
  exact ⟨by first | rfl | (simp; done) | (simp [*]; done), by repeat (first | exact Drawn0.refl _ | apply Drawn0.step)⟩

/-! ### spec_ExtCut: function 25 -/
def spec_ExtCut.l0 : Nat → ByteArray → Int → Int → Option (ByteArray)
  | 0, _, _, _ => none
  | k + 1, x0, x1, x5 => if x5 < (x0.size : Int) then (if 0 ≤ x5 then (if x5 ≤ (x0.size : Int) then ((spec_extRune.f k (x0.extract (x5 : Int).toNat x0.size)).bind fun bt107 => (if bt107.1 = 0 then (some (x0.extract 0 (x5 : Int).toNat)) else (if (wrap64 (x5 + bt107.1)) > x1 then (some (x0.extract 0 (x5 : Int).toNat)) else (spec_ExtCut.l0 k x0 x1 (wrap64 (x5 + bt107.1)))))) else (none)) else (none)) else (if 0 ≤ x5 then (if x5 ≤ (x0.size : Int) then (some (x0.extract 0 (x5 : Int).toNat)) else (none)) else (none))
def spec_ExtCut.f (k : Nat) (a0 : ByteArray) (a1 : Int) : Option (ByteArray) := spec_ExtCut.l0 k a0 a1 0
theorem spec_ExtCut.mono_l : ∀ k, (∀ y0 y1 y2, LeO (spec_ExtCut.l0 k y0 y1 y2) (spec_ExtCut.l0 (k + 1) y0 y1 y2))
  | 0 => fun _ _ _ r h => by simp [spec_ExtCut.l0] at h
  | k + 1 => by
    have ih0 := spec_ExtCut.mono_l k
    · intro y0 y1 y2
      unfold spec_ExtCut.l0
      repeat' first
      | (with_reducible exact ih0 _ _ _)
      | (with_reducible exact spec_extRune.mono _ _)
      | (with_reducible exact LeO.refl _)
      | (with_reducible exact LeO.none _)
      | (with_reducible refine LeO.ite ?_ ?_)
      | (with_reducible refine LeO.bind ?_ (fun _ => ?_))
      | exact ih0 _ _ _
      | exact spec_extRune.mono _ _
      | exact LeO.none _
      | refine LeO.ite ?_ ?_
      | refine LeO.bind ?_ (fun _ => ?_)
theorem spec_ExtCut.mono : ∀ a0 a1 k, LeO (spec_ExtCut.f k a0 a1) (spec_ExtCut.f (k + 1) a0 a1) := by
  intro a0 a1 k
  have ih0 := spec_ExtCut.mono_l k
  unfold spec_ExtCut.f
  repeat' first
      | (with_reducible exact ih0 _ _ _)
      | (with_reducible exact spec_extRune.mono _ _)
      | (with_reducible exact LeO.refl _)
      | (with_reducible exact LeO.none _)
      | (with_reducible refine LeO.ite ?_ ?_)
      | (with_reducible refine LeO.bind ?_ (fun _ => ?_))
      | exact ih0 _ _ _
      | exact spec_extRune.mono _ _
      | exact LeO.none _
      | refine LeO.ite ?_ ?_
      | refine LeO.bind ?_ (fun _ => ?_)
set_option maxHeartbeats 8000000 in
set_option maxRecDepth 100000 in
theorem spec_ExtCut.calls (k : Nat) (a0 : ByteArray) (a1 : Int) (r : ByteArray) (w : World) (h : spec_ExtCut.f k a0 a1 = some r) :
    Calls Try.prog 25 #[.string a0, .int .i64 a1] w fun e w' => e = .returned (.string r) ∧ Drawn0 w w' := by
  have H : (spec_ExtCut.l0 k a0 a1 0) = some r := h
  clear h
  have H' := Aside0.mk H
  clear H
  go_enter Try.func25, Try.ntmps25
  go_wp2
  go_loopg [5] k (fun kq v5 w' => ∃ (x5_1 : Int), v5 = .int .i64 x5_1 ∧ Aside0 (spec_ExtCut.l0 kq a0 a1 x5_1 = some r) ∧ Aside0 (kq ≤ k) ∧ Drawn0 w w')
  case atStart => exact ⟨(0), (by first | rfl | (simp; done) | (simp [*]; done)), H', ⟨Nat.le_refl _⟩, by repeat (first | exact Drawn0.refl _ | apply Drawn0.step)⟩
  case round =>
    clear H'
    try clear c2
    try clear p2
    obtain ⟨x5_1, rfl, HA, HK1, ⟨m1, rfl⟩⟩ := hrel
    cases gk with
    | zero => exact absurd HA.out (by simp [spec_ExtCut.l0])
    | succ k1 =>
      have H := HA.out
      clear HA
      simp only [spec_ExtCut.l0] at H
      by_cases c3 : x5_1 < (a0.size : Int)
      · rw [if_pos c3] at H
        have c3b0 : decide (x5_1 < (a0.size : Int)) = true := decide_eq_true c3
        clear c3
        by_cases c4 : 0 ≤ x5_1
        · rw [if_pos c4] at H
          have c4b0 := eq_true c4
          have c4b1 : decide (0 ≤ x5_1) = true := decide_eq_true c4
          clear c4
          by_cases c5 : x5_1 ≤ (a0.size : Int)
          · rw [if_pos c5] at H
            have c5b0 := eq_true c5
            have c5b1 : decide (x5_1 ≤ (a0.size : Int)) = true := decide_eq_true c5
            clear c5
            replace H := Option.bind_eq_some_iff.mp H
            obtain ⟨⟨t107, t108⟩, A60, H⟩ := H
            replace H : (if t107 = 0 then (some (a0.extract 0 (x5_1 : Int).toNat)) else (if (wrap64 (x5_1 + t107)) > a1 then (some (a0.extract 0 (x5_1 : Int).toNat)) else (spec_ExtCut.l0 k1 a0 a1 (wrap64 (x5_1 + t107))))) = some r := H
            have A6 := Aside0.mk A60
            clear A60
            by_cases c7 : t107 = 0
            · rw [if_pos c7] at H
              have c7b0 : (t107 == 0) = true := beq_iff_eq.mpr c7
              have c7b1 : (t107 != 0) = false := bne_eq_false_iff_eq.mpr c7
              clear c7
              have c8b0 := eq_true (of_decide_eq_true (by first | (with_reducible assumption) | assumption) : 0 ≤ x5_1)
              have c9b0 := eq_true (of_decide_eq_true (by first | (with_reducible assumption) | assumption) : x5_1 ≤ (a0.size : Int))
              obtain rfl := Option.some.inj H
              go_wp2_with (first | ((with_reducible refine gate_callee (f := 45) rfl ?_); refine goesL_ (some 16) rfl rfl Try.func45 (by kernel_rfl) rfl #[.string (a0.extract (x5_1 : Int).toNat a0.size)] rfl (by (try simp only [List.map_toArray, List.map_cons, List.map_nil]); first | done | rfl | (simp only [List.length_drop, List.length_take]; rfl)) ?_; (with_reducible refine (spec_extRune.calls k1 (a0.extract (x5_1 : Int).toNat a0.size) t107 t108 _ A6.out).mono ?_); rintro e w' ⟨rfl, ⟨nd, rfl⟩⟩; refine ⟨_, rfl, ?_⟩))
              go_ret
              exact ⟨by first | rfl | (simp; done) | (simp [*]; done), by repeat (first | exact Drawn0.refl _ | apply Drawn0.step)⟩
            · rw [if_neg c7] at H
              have c7b0 : (t107 == 0) = false := beq_eq_false_iff_ne.mpr c7
              have c7b1 : (t107 != 0) = true := bne_iff_ne.mpr c7
              by_cases c10 : (wrap64 (x5_1 + t107)) > a1
              · rw [if_pos c10] at H
                have c10b0 : decide (a1 < (wrap64 (x5_1 + t107))) = true := decide_eq_true c10
                clear c10
                have c11b0 := eq_true (of_decide_eq_true (by first | (with_reducible assumption) | assumption) : 0 ≤ x5_1)
                have c12b0 := eq_true (of_decide_eq_true (by first | (with_reducible assumption) | assumption) : x5_1 ≤ (a0.size : Int))
                obtain rfl := Option.some.inj H
                go_wp2_with (first | ((with_reducible refine gate_callee (f := 45) rfl ?_); refine goesL_ (some 16) rfl rfl Try.func45 (by kernel_rfl) rfl #[.string (a0.extract (x5_1 : Int).toNat a0.size)] rfl (by (try simp only [List.map_toArray, List.map_cons, List.map_nil]); first | done | rfl | (simp only [List.length_drop, List.length_take]; rfl)) ?_; (with_reducible refine (spec_extRune.calls k1 (a0.extract (x5_1 : Int).toNat a0.size) t107 t108 _ A6.out).mono ?_); rintro e w' ⟨rfl, ⟨nd, rfl⟩⟩; refine ⟨_, rfl, ?_⟩))
                go_ret
                exact ⟨by first | rfl | (simp; done) | (simp [*]; done), by repeat (first | exact Drawn0.refl _ | apply Drawn0.step)⟩
              · rw [if_neg c10] at H
                have c10b0 : decide (a1 < (wrap64 (x5_1 + t107))) = false := decide_eq_false c10
                clear c10
                have H' := Aside0.mk H
                clear H
                go_wp2_with (first | ((with_reducible refine gate_callee (f := 45) rfl ?_); refine goesL_ (some 16) rfl rfl Try.func45 (by kernel_rfl) rfl #[.string (a0.extract (x5_1 : Int).toNat a0.size)] rfl (by (try simp only [List.map_toArray, List.map_cons, List.map_nil]); first | done | rfl | (simp only [List.length_drop, List.length_take]; rfl)) ?_; (with_reducible refine (spec_extRune.calls k1 (a0.extract (x5_1 : Int).toNat a0.size) t107 t108 _ A6.out).mono ?_); rintro e w' ⟨rfl, ⟨nd, rfl⟩⟩; refine ⟨_, rfl, ?_⟩))
                go_roundg k1
                case measure => have := HK1.out; omega
                case rel => exact ⟨(wrap64 (x5_1 + t107)), (by first | rfl | (simp; done) | (simp [*]; done)), H', ⟨by have := HK1.out; omega⟩, by repeat (first | exact Drawn0.refl _ | apply Drawn0.step)⟩
          · rw [if_neg c5] at H
            exact absurd H (by simp)
        · rw [if_neg c4] at H
          exact absurd H (by simp)
      · rw [if_neg c3] at H
        have c3b0 : decide (x5_1 < (a0.size : Int)) = false := decide_eq_false c3
        clear c3
        by_cases c13 : 0 ≤ x5_1
        · rw [if_pos c13] at H
          have c13b0 := eq_true c13
          have c13b1 : decide (0 ≤ x5_1) = true := decide_eq_true c13
          clear c13
          by_cases c14 : x5_1 ≤ (a0.size : Int)
          · rw [if_pos c14] at H
            have c14b0 := eq_true c14
            have c14b1 : decide (x5_1 ≤ (a0.size : Int)) = true := decide_eq_true c14
            clear c14
            obtain rfl := Option.some.inj H
            go_wp2
            go_ret
            exact ⟨by first | rfl | (simp; done) | (simp [*]; done), by repeat (first | exact Drawn0.refl _ | apply Drawn0.step)⟩
          · rw [if_neg c14] at H
            exact absurd H (by simp)
        · rw [if_neg c13] at H
          exact absurd H (by simp)

/-! ### laws_FnTextStart: function 7 -/
def laws_FnTextStart.f (k : Nat) (a0 : ByteArray) (a1 : Int) : Option (Bool) := if (a0.size : Int) > 2147483647 then (some true) else ((laws_extText.f k a0).bind fun t109 => (if t109 = true then ((impl_CutText.f k a0 (wrap64 (a1))).bind fun t110 => ((spec_ExtCut.f k a0 (wrap64 (a1))).bind fun t111 => (if t110.toList = t111.toList then ((impl_CutText.f k (⟨#[97, 195, 169]⟩ : ByteArray) 2).bind fun t112 => (some (t112.toList == ([97] : List UInt8)))) else (some false)))) else (some true)))
theorem laws_FnTextStart.mono : ∀ a0 a1 k, LeO (laws_FnTextStart.f k a0 a1) (laws_FnTextStart.f (k + 1) a0 a1) := by
  intro a0 a1 k
  unfold laws_FnTextStart.f
  repeat' first
      | (with_reducible exact impl_CutText.mono _ _ _)
      | (with_reducible exact laws_extText.mono _ _)
      | (with_reducible exact spec_ExtCut.mono _ _ _)
      | (with_reducible exact LeO.refl _)
      | (with_reducible exact LeO.none _)
      | (with_reducible refine LeO.ite ?_ ?_)
      | (with_reducible refine LeO.bind ?_ (fun _ => ?_))
      | exact impl_CutText.mono _ _ _
      | exact laws_extText.mono _ _
      | exact spec_ExtCut.mono _ _ _
      | exact LeO.none _
      | refine LeO.ite ?_ ?_
      | refine LeO.bind ?_ (fun _ => ?_)
set_option maxHeartbeats 8000000 in
set_option maxRecDepth 100000 in
theorem laws_FnTextStart.calls (k : Nat) (a0 : ByteArray) (a1 : Int) (r : Bool) (w : World) (h : laws_FnTextStart.f k a0 a1 = some r) :
    Calls Try.prog 7 #[.string a0, .int .i16 a1] w fun e w' => e = .returned (.bool r) ∧ Drawn0 w w' := by
  have H : (if (a0.size : Int) > 2147483647 then (some true) else ((laws_extText.f k a0).bind fun t109 => (if t109 = true then ((impl_CutText.f k a0 (wrap64 (a1))).bind fun t110 => ((spec_ExtCut.f k a0 (wrap64 (a1))).bind fun t111 => (if t110.toList = t111.toList then ((impl_CutText.f k (⟨#[97, 195, 169]⟩ : ByteArray) 2).bind fun t112 => (some (t112.toList == ([97] : List UInt8)))) else (some false)))) else (some true)))) = some r := h
  clear h
  by_cases c3 : (a0.size : Int) > 2147483647
  · rw [if_pos c3] at H
    have c3b0 : decide (2147483647 < (a0.size : Int)) = true := decide_eq_true c3
    have c3b1 : decide (2147483647 < a0.size) = true := decide_eq_true (by omega)
    clear c3
    obtain rfl := Option.some.inj H
    go_enter Try.func7, Try.ntmps7
    go_wp2
    go_ret
    exact ⟨by first | rfl | (simp; done) | (simp [*]; done), by repeat (first | exact Drawn0.refl _ | apply Drawn0.step)⟩
  · rw [if_neg c3] at H
    have c3b0 : decide (2147483647 < (a0.size : Int)) = false := decide_eq_false c3
    have c3b1 : decide (2147483647 < a0.size) = false := decide_eq_false (by omega)
    clear c3
    replace H := Option.bind_eq_some_iff.mp H
    obtain ⟨t109, A40, H⟩ := H
    replace H : (if t109 = true then ((impl_CutText.f k a0 (wrap64 (a1))).bind fun t110 => ((spec_ExtCut.f k a0 (wrap64 (a1))).bind fun t111 => (if t110.toList = t111.toList then ((impl_CutText.f k (⟨#[97, 195, 169]⟩ : ByteArray) 2).bind fun t112 => (some (t112.toList == ([97] : List UInt8)))) else (some false)))) else (some true)) = some r := H
    have A4 := Aside0.mk A40
    clear A40
    by_cases c5 : t109 = true
    · subst c5
      have H1 : ((impl_CutText.f k a0 (wrap64 (a1))).bind fun t110 => ((spec_ExtCut.f k a0 (wrap64 (a1))).bind fun t111 => (if t110.toList = t111.toList then ((impl_CutText.f k (⟨#[97, 195, 169]⟩ : ByteArray) 2).bind fun t112 => (some (t112.toList == ([97] : List UInt8)))) else (some false)))) = some r := by rw [if_pos rfl] at H; exact H
      clear H
      have H := H1
      clear H1
      replace H := Option.bind_eq_some_iff.mp H
      obtain ⟨t110, A60, H⟩ := H
      replace H : ((spec_ExtCut.f k a0 (wrap64 (a1))).bind fun t111 => (if t110.toList = t111.toList then ((impl_CutText.f k (⟨#[97, 195, 169]⟩ : ByteArray) 2).bind fun t112 => (some (t112.toList == ([97] : List UInt8)))) else (some false))) = some r := H
      have A6 := Aside0.mk A60
      clear A60
      replace H := Option.bind_eq_some_iff.mp H
      obtain ⟨t111, A70, H⟩ := H
      replace H : (if t110.toList = t111.toList then ((impl_CutText.f k (⟨#[97, 195, 169]⟩ : ByteArray) 2).bind fun t112 => (some (t112.toList == ([97] : List UInt8)))) else (some false)) = some r := H
      have A7 := Aside0.mk A70
      clear A70
      by_cases c8 : t110.toList = t111.toList
      · rw [if_pos c8] at H
        have c8b0 : (t110.toList == t111.toList) = true := beq_iff_eq.mpr c8
        have c8b1 : (t110.toList != t111.toList) = false := bne_eq_false_iff_eq.mpr c8
        clear c8
        replace H := Option.bind_eq_some_iff.mp H
        obtain ⟨t112, A90, H⟩ := H
        replace H : (some (t112.toList == ([97] : List UInt8))) = some r := H
        have A9 := Aside0.mk A90
        clear A90
        obtain rfl := Option.some.inj H
        go_enter Try.func7, Try.ntmps7
        go_wp2_with (first | ((with_reducible refine gate_callee (f := 23) rfl ?_); refine goesL_ (some 9) rfl rfl Try.func23 (by kernel_rfl) rfl #[.string a0] rfl (by (try simp only [List.map_toArray, List.map_cons, List.map_nil]); first | done | rfl | (simp only [List.length_drop, List.length_take]; rfl)) ?_; (with_reducible refine (laws_extText.calls k a0 true _ A4.out).mono ?_); rintro e w' ⟨rfl, ⟨nd, rfl⟩⟩; refine ⟨_, rfl, ?_⟩) | (go_at_call 24; (with_reducible refine (impl_CutText.calls k a0 (wrap64 (a1)) t110 _ A6.out).mono ?_); rintro e w' ⟨rfl, ⟨nd, rfl⟩⟩) | (go_at_call 25; (with_reducible refine (spec_ExtCut.calls k a0 (wrap64 (a1)) t111 _ A7.out).mono ?_); rintro e w' ⟨rfl, ⟨nd, rfl⟩⟩) | (go_at_call 24; (with_reducible refine (impl_CutText.calls k (⟨#[97, 195, 169]⟩ : ByteArray) 2 t112 _ A9.out).mono ?_); rintro e w' ⟨rfl, ⟨nd, rfl⟩⟩))
        go_ret
        exact ⟨by first | rfl | (simp; done) | (simp [*]; done), by repeat (first | exact Drawn0.refl _ | apply Drawn0.step)⟩
      · rw [if_neg c8] at H
        have c8b0 : (t110.toList == t111.toList) = false := beq_eq_false_iff_ne.mpr c8
        have c8b1 : (t110.toList != t111.toList) = true := bne_iff_ne.mpr c8
        obtain rfl := Option.some.inj H
        go_enter Try.func7, Try.ntmps7
        go_wp2_with (first | ((with_reducible refine gate_callee (f := 23) rfl ?_); refine goesL_ (some 9) rfl rfl Try.func23 (by kernel_rfl) rfl #[.string a0] rfl (by (try simp only [List.map_toArray, List.map_cons, List.map_nil]); first | done | rfl | (simp only [List.length_drop, List.length_take]; rfl)) ?_; (with_reducible refine (laws_extText.calls k a0 true _ A4.out).mono ?_); rintro e w' ⟨rfl, ⟨nd, rfl⟩⟩; refine ⟨_, rfl, ?_⟩) | (go_at_call 24; (with_reducible refine (impl_CutText.calls k a0 (wrap64 (a1)) t110 _ A6.out).mono ?_); rintro e w' ⟨rfl, ⟨nd, rfl⟩⟩) | (go_at_call 25; (with_reducible refine (spec_ExtCut.calls k a0 (wrap64 (a1)) t111 _ A7.out).mono ?_); rintro e w' ⟨rfl, ⟨nd, rfl⟩⟩))
        go_ret
        exact ⟨by first | rfl | (simp; done) | (simp [*]; done), by repeat (first | exact Drawn0.refl _ | apply Drawn0.step)⟩
    · replace c5 := Bool.eq_false_iff.mpr c5
      subst c5
      have H1 : (some true) = some r := by rw [if_neg (show ¬ (false = true) by decide)] at H; exact H
      clear H
      have H := H1
      clear H1
      obtain rfl := Option.some.inj H
      go_enter Try.func7, Try.ntmps7
      go_wp2_with (first | ((with_reducible refine gate_callee (f := 23) rfl ?_); refine goesL_ (some 9) rfl rfl Try.func23 (by kernel_rfl) rfl #[.string a0] rfl (by (try simp only [List.map_toArray, List.map_cons, List.map_nil]); first | done | rfl | (simp only [List.length_drop, List.length_take]; rfl)) ?_; (with_reducible refine (laws_extText.calls k a0 false _ A4.out).mono ?_); rintro e w' ⟨rfl, ⟨nd, rfl⟩⟩; refine ⟨_, rfl, ?_⟩))
      go_ret
      exact ⟨by first | rfl | (simp; done) | (simp [*]; done), by repeat (first | exact Drawn0.refl _ | apply Drawn0.step)⟩

/-- THE ONE PURE STATEMENT of laws_FnTextStart: yours. -/
def laws_FnTextStart.Pure : Prop := ∀ (a0 : ByteArray) (a1 : Int), a0.size ≤ 140737488351232 → (Lit.int .i16 a1).wf = true → ∃ k, laws_FnTextStart.f k a0 a1 = some true
theorem laws_FnTextStart.walk (P : laws_FnTextStart.Pure) (a0 : ByteArray) (a1 : Int) (w : World) (w0 : a0.size ≤ 140737488351232) (w1 : (Lit.int .i16 a1).wf = true) :
    Calls Try.prog 7 #[.string a0, .int .i16 a1] w fun e w' => e = .returned (.bool true) ∧ Below w.heap.size w w' := by
  obtain ⟨k, h⟩ := P a0 a1 w0 w1
  refine (laws_FnTextStart.calls k a0 a1 true w h).mono ?_
  rintro e w' ⟨rfl, hd⟩
  exact ⟨rfl, hd.below⟩

end Go.Proofs.Ytfpnhlfmnoikhaa.PFnTextStart
