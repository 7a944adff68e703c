/- As print.sh printed it, spec.DocSpan alone. -/
import Derived.Test.YtfhbnlbdmfjhlaaGreatDoorPFnDocEqualx0
import Derived.Test.YtfhbnlbdmfjhlaaGreatDoorPFnDocEqualx1
import Derived.Test.YtfhbnlbdmfjhlaaGreatDoorPFnDocEqualx2
namespace Go.Proofs.YtfhbnlbdmfjhlaaGreatDoor.PFnDocEqual
open Go.RowKit Go.Proofs.YtfhbnlbdmfjhlaaGreatDoorW.PrintWords Go.Proofs.YtfhbnlbdmfjhlaaGreatDoorW.PrintLast Go.Proofs.YtfhbnlbdmfjhlaaGreatDoorW.PrintMore
attribute [local go_sem] max2_int min2_int max_two min_two max_three min_three max_four min_four   -- for this text's walks alone
set_option linter.unusedVariables false
set_option linter.unusedSimpArgs false

/-! ### spec_DocSpan: function 8 -/
mutual
def spec_DocSpan.j0 : Nat → Int → List Int → Int → Bool → Int → Bool → Option (Int × Bool)
  | 0, _, _, _, _, _, _ => none
  | k + 1, x0, x1, x6, x7, x13, x14 => if x14 = true then (if x7 = true then (if x6 ≥ 0 then (some (wrap64 (4 + x6), decide ((x1.length : Int) ≥ (wrap64 (4 + x6))))) else (some (wrap64 (4 + x6), false))) else (some (wrap64 (4 + x6), false))) else (if x13 = 3 then (spec_DocSpan.j1 k x0 x1 x6 x7 x13 (x13 == 3)) else (if x13 = 4 then (spec_DocSpan.j1 k x0 x1 x6 x7 x13 (x13 == 4)) else (spec_DocSpan.j1 k x0 x1 x6 x7 x13 (x13 == 15))))
def spec_DocSpan.j1 : Nat → Int → List Int → Int → Bool → Int → Bool → Option (Int × Bool)
  | 0, _, _, _, _, _, _ => none
  | k + 1, x0, x1, x6, x7, x13, x32 => if x32 = true then (if x7 = true then (if x6 ≥ 0 then (some (x6, decide ((x1.length : Int) ≥ x6))) else (some (x6, false))) else (some (x6, false))) else (if x13 = 12 then (if x7 = true then (if x6 ≥ 0 then (some (wrap64 (16 + x6), decide ((x1.length : Int) ≥ (wrap64 (16 + x6))))) else (some (wrap64 (16 + x6), false))) else (some (wrap64 (16 + x6), false))) else ((spec_DocLen.f k x0 x1).bind fun bt119 => (some (bt119.1, bt119.2))))
end
def spec_DocSpan.f (k : Nat) (a0 : Int) (l1 : List Int) : Option (Int × Bool) := (spec_DocNumber.f l1).bind fun bt117 => (if a0 = 2 then (spec_DocSpan.j0 k a0 l1 bt117.1 bt117.2 a0 (a0 == 2)) else (if a0 = 13 then (spec_DocSpan.j0 k a0 l1 bt117.1 bt117.2 a0 (a0 == 13)) else (spec_DocSpan.j0 k a0 l1 bt117.1 bt117.2 a0 (a0 == 14))))
theorem spec_DocSpan.mono_l : ∀ k, (∀ y0 y1 y2 y3 y4 y5, LeO (spec_DocSpan.j0 k y0 y1 y2 y3 y4 y5) (spec_DocSpan.j0 (k + 1) y0 y1 y2 y3 y4 y5)) ∧ (∀ y0 y1 y2 y3 y4 y5, LeO (spec_DocSpan.j1 k y0 y1 y2 y3 y4 y5) (spec_DocSpan.j1 (k + 1) y0 y1 y2 y3 y4 y5))
  | 0 => ⟨fun _ _ _ _ _ _ r h => by simp [spec_DocSpan.j0] at h, fun _ _ _ _ _ _ r h => by simp [spec_DocSpan.j1] at h⟩
  | k + 1 => by
    obtain ⟨ih0, ih1⟩ := spec_DocSpan.mono_l k
    refine ⟨?_, ?_⟩
    · intro y0 y1 y2 y3 y4 y5
      unfold spec_DocSpan.j0
      repeat' first
      | (with_reducible exact ih0 _ _ _ _ _ _)
      | (with_reducible exact ih1 _ _ _ _ _ _)
      | (with_reducible exact spec_DocLen.mono _ _ _)
      | (with_reducible exact LeO.refl _)
      | (with_reducible exact LeO.none _)
      | (with_reducible refine LeO.ite ?_ ?_)
      | (with_reducible refine LeO.bind ?_ (fun _ => ?_))
      | exact ih0 _ _ _ _ _ _
      | exact ih1 _ _ _ _ _ _
      | exact spec_DocLen.mono _ _ _
      | exact LeO.none _
      | refine LeO.ite ?_ ?_
      | refine LeO.bind ?_ (fun _ => ?_)
    · intro y0 y1 y2 y3 y4 y5
      unfold spec_DocSpan.j1
      repeat' first
      | (with_reducible exact ih0 _ _ _ _ _ _)
      | (with_reducible exact ih1 _ _ _ _ _ _)
      | (with_reducible exact spec_DocLen.mono _ _ _)
      | (with_reducible exact LeO.refl _)
      | (with_reducible exact LeO.none _)
      | (with_reducible refine LeO.ite ?_ ?_)
      | (with_reducible refine LeO.bind ?_ (fun _ => ?_))
      | exact ih0 _ _ _ _ _ _
      | exact ih1 _ _ _ _ _ _
      | exact spec_DocLen.mono _ _ _
      | exact LeO.none _
      | refine LeO.ite ?_ ?_
      | refine LeO.bind ?_ (fun _ => ?_)
theorem spec_DocSpan.mono : ∀ a0 a1 k, LeO (spec_DocSpan.f k a0 a1) (spec_DocSpan.f (k + 1) a0 a1) := by
  intro a0 a1 k
  obtain ⟨ih0, ih1⟩ := spec_DocSpan.mono_l k
  unfold spec_DocSpan.f
  repeat' first
      | (with_reducible exact ih0 _ _ _ _ _ _)
      | (with_reducible exact ih1 _ _ _ _ _ _)
      | (with_reducible exact spec_DocLen.mono _ _ _)
      | (with_reducible exact LeO.refl _)
      | (with_reducible exact LeO.none _)
      | (with_reducible refine LeO.ite ?_ ?_)
      | (with_reducible refine LeO.bind ?_ (fun _ => ?_))
      | exact ih0 _ _ _ _ _ _
      | exact ih1 _ _ _ _ _ _
      | exact spec_DocLen.mono _ _ _
      | exact LeO.none _
      | refine LeO.ite ?_ ?_
      | refine LeO.bind ?_ (fun _ => ?_)
set_option maxHeartbeats 8000000 in
set_option maxRecDepth 100000 in
theorem spec_DocSpan.calls (k : Nat) (a0 : Int) (A1 : Option Addr) (c1 : Nat) (l1 : List Int) (r1 : Int) (r2 : Bool) (w : World) (hr1 : Kd.C (Kd.int .u8) w A1 l1.length l1) (hc1 : l1.length ≤ c1) (h : spec_DocSpan.f k a0 l1 = some (r1, r2)) :
    Calls Tryz.prog 8 #[.int .i64 a0, .slice A1 l1.length c1] w fun e w' => e = .returned (.tuple #[.int .i64 r1, .bool r2]) ∧ Drawn0 w w' := by
  have HR1 := Aside0.mk hr1
  have HC1 := Aside0.mk hc1
  clear hr1 hc1
  have H : ((spec_DocNumber.f l1).bind fun bt117 => (if a0 = 2 then (spec_DocSpan.j0 k a0 l1 bt117.1 bt117.2 a0 (a0 == 2)) else (if a0 = 13 then (spec_DocSpan.j0 k a0 l1 bt117.1 bt117.2 a0 (a0 == 13)) else (spec_DocSpan.j0 k a0 l1 bt117.1 bt117.2 a0 (a0 == 14))))) = some (r1, r2) := h
  clear h
  replace H := Option.bind_eq_some_iff.mp H
  obtain ⟨⟨t117, t118⟩, A30, H⟩ := H
  replace H : (if a0 = 2 then (spec_DocSpan.j0 k a0 l1 t117 t118 a0 (a0 == 2)) else (if a0 = 13 then (spec_DocSpan.j0 k a0 l1 t117 t118 a0 (a0 == 13)) else (spec_DocSpan.j0 k a0 l1 t117 t118 a0 (a0 == 14)))) = some (r1, r2) := H
  have A3 := Aside0.mk A30
  clear A30
  have HC4 := Aside0.mk H
  clear H
  go_enter Tryz.func8, Tryz.ntmps8
  go_upto_if 14 with (first | ((with_reducible refine gate_callee (f := 12) rfl ?_); refine goesL_ (some 10) rfl rfl Tryz.func12 (by kernel_rfl) rfl #[.slice A1 l1.length c1] rfl (by (try simp only [List.map_toArray, List.map_cons, List.map_nil]); first | done | rfl | (simp only [List.length_drop, List.length_take]; rfl)) ?_; (with_reducible refine (spec_DocNumber.calls _ _ l1 t117 t118 _ ?side1 ?side2 A3.out).mono ?_); (case side1 => repeat (first | exact HR1.out | (with_reducible refine Kd.C_alloc ?_ _) | (with_reducible refine Kd.C_drewN ?_ _) | (with_reducible refine Kd.C_drew ?_))); (case side2 => exact HC1.out); rintro e w' ⟨rfl, ⟨nd, rfl⟩⟩; refine ⟨_, rfl, ?_⟩))
  (try simp only [Act.put, List.setIfInBounds_toArray, List.set_cons_zero, List.set_cons_succ])
  go_cut [14] (fun v14 wc => ∃ (kq : Nat) (x14_3 : Bool), v14 = .bool x14_3 ∧ Aside0 (spec_DocSpan.j0 kq a0 l1 t117 t118 a0 x14_3 = some (r1, r2)) ∧ Aside0 (kq ≤ k) ∧ Drawn0 w wc)
  case first =>
    have H := HC4.out
    clear HC4
    by_cases c5 : a0 = 2
    · rw [if_pos c5] at H
      have c5b0 : (a0 == 2) = true := beq_iff_eq.mpr c5
      have c5b1 : (a0 != 2) = false := bne_eq_false_iff_eq.mpr c5
      clear c5
      (first | rw [c5b0] | (simp only [i64_w, i32_w]; rw [c5b0]) | skip)
      have H' := Aside0.mk H
      clear H
      go_wp2
      go_meet
      case rel => exact ⟨_, ((a0 == 2)), (by first | rfl | (simp; done) | (simp [*]; done)), H', ⟨by first | omega | exact Nat.le_refl _⟩, by repeat (first | exact Drawn0.refl _ | apply Drawn0.step)⟩
    · rw [if_neg c5] at H
      have c5b0 : (a0 == 2) = false := beq_eq_false_iff_ne.mpr c5
      have c5b1 : (a0 != 2) = true := bne_iff_ne.mpr c5
      (first | rw [c5b0] | (simp only [i64_w, i32_w]; rw [c5b0]) | skip)
      by_cases c6 : a0 = 13
      · rw [if_pos c6] at H
        have c6b0 : (a0 == 13) = true := beq_iff_eq.mpr c6
        have c6b1 : (a0 != 13) = false := bne_eq_false_iff_eq.mpr c6
        clear c6
        have H' := Aside0.mk H
        clear H
        go_wp2
        go_meet
        case rel => exact ⟨_, ((a0 == 13)), (by first | rfl | (simp; done) | (simp [*]; done)), H', ⟨by first | omega | exact Nat.le_refl _⟩, by repeat (first | exact Drawn0.refl _ | apply Drawn0.step)⟩
      · rw [if_neg c6] at H
        have c6b0 : (a0 == 13) = false := beq_eq_false_iff_ne.mpr c6
        have c6b1 : (a0 != 13) = true := bne_iff_ne.mpr c6
        have H' := Aside0.mk H
        clear H
        go_wp2
        go_meet
        case rel => exact ⟨_, ((a0 == 14)), (by first | rfl | (simp; done) | (simp [*]; done)), H', ⟨by first | omega | exact Nat.le_refl _⟩, by repeat (first | exact Drawn0.refl _ | apply Drawn0.step)⟩
  case rest =>
    clear HC4
    try clear c1
    try clear p2
    try clear c5
    try clear c5b0
    try clear c5b1
    try clear c6
    try clear c6b0
    try clear c6b1
    obtain ⟨kq, x14_3, rfl, HA, HJ3, ⟨mc3, rfl⟩⟩ := hcut
    cases kq with
    | zero => exact absurd HA.out (by simp [spec_DocSpan.j0])
    | succ kj3 =>
      have H := HA.out
      clear HA
      simp only [spec_DocSpan.j0] at H
      by_cases c7 : x14_3 = true
      · subst c7
        have H1 : (if t118 = true then (if t117 ≥ 0 then (some (wrap64 (4 + t117), decide ((l1.length : Int) ≥ (wrap64 (4 + t117))))) else (some (wrap64 (4 + t117), false))) else (some (wrap64 (4 + t117), false))) = some (r1, r2) := by rw [if_pos rfl] at H; exact H
        clear H
        have H := H1
        clear H1
        by_cases c8 : t118 = true
        · subst c8
          have H1 : (if t117 ≥ 0 then (some (wrap64 (4 + t117), decide ((l1.length : Int) ≥ (wrap64 (4 + t117))))) else (some (wrap64 (4 + t117), false))) = some (r1, r2) := by rw [if_pos rfl] at H; exact H
          clear H
          have H := H1
          clear H1
          by_cases c9 : t117 ≥ 0
          · rw [if_pos c9] at H
            have c9b0 : decide (0 ≤ t117) = true := decide_eq_true c9
            clear c9
            simp only [Option.some.injEq, Prod.mk.injEq] at H
            obtain ⟨rfl, rfl⟩ := H
            go_wp2
            go_ret2
            exact ⟨by first | rfl | (simp; done) | (simp [*]; done), by repeat (first | exact Drawn0.refl _ | apply Drawn0.step)⟩
          · rw [if_neg c9] at H
            have c9b0 : decide (0 ≤ t117) = false := decide_eq_false c9
            clear c9
            simp only [Option.some.injEq, Prod.mk.injEq] at H
            obtain ⟨rfl, rfl⟩ := H
            go_wp2
            go_ret2
            exact ⟨by first | rfl | (simp; done) | (simp [*]; done), by repeat (first | exact Drawn0.refl _ | apply Drawn0.step)⟩
        · replace c8 := Bool.eq_false_iff.mpr c8
          subst c8
          have H1 : (some (wrap64 (4 + t117), false)) = some (r1, r2) := by rw [if_neg (show ¬ (false = true) by decide)] at H; exact H
          clear H
          have H := H1
          clear H1
          simp only [Option.some.injEq, Prod.mk.injEq] at H
          obtain ⟨rfl, rfl⟩ := H
          go_wp2
          go_ret2
          exact ⟨by first | rfl | (simp; done) | (simp [*]; done), by repeat (first | exact Drawn0.refl _ | apply Drawn0.step)⟩
      · replace c7 := Bool.eq_false_iff.mpr c7
        subst c7
        have H1 : (if a0 = 3 then (spec_DocSpan.j1 kj3 a0 l1 t117 t118 a0 (a0 == 3)) else (if a0 = 4 then (spec_DocSpan.j1 kj3 a0 l1 t117 t118 a0 (a0 == 4)) else (spec_DocSpan.j1 kj3 a0 l1 t117 t118 a0 (a0 == 15)))) = some (r1, r2) := by rw [if_neg (show ¬ (false = true) by decide)] at H; exact H
        clear H
        have H := H1
        clear H1
        have HC10 := Aside0.mk H
        clear H
        go_upto_if 32 with (fail)
        go_cut [32] (fun v32 wc => ∃ (kq : Nat) (x32_9 : Bool), v32 = .bool x32_9 ∧ Aside0 (spec_DocSpan.j1 kq a0 l1 t117 t118 a0 x32_9 = some (r1, r2)) ∧ Aside0 (kq ≤ kj3) ∧ Drawn0 w wc)
        case first =>
          have H := HC10.out
          clear HC10
          by_cases c11 : a0 = 3
          · rw [if_pos c11] at H
            have c11b0 : (a0 == 3) = true := beq_iff_eq.mpr c11
            have c11b1 : (a0 != 3) = false := bne_eq_false_iff_eq.mpr c11
            clear c11
            (first | rw [c11b0] | (simp only [i64_w, i32_w]; rw [c11b0]) | skip)
            have H' := Aside0.mk H
            clear H
            go_wp2
            go_meet
            case rel => exact ⟨_, ((a0 == 3)), (by first | rfl | (simp; done) | (simp [*]; done)), H', ⟨by have := HJ3.out; first | omega | exact Nat.le_refl _⟩, by repeat (first | exact Drawn0.refl _ | apply Drawn0.step)⟩
          · rw [if_neg c11] at H
            have c11b0 : (a0 == 3) = false := beq_eq_false_iff_ne.mpr c11
            have c11b1 : (a0 != 3) = true := bne_iff_ne.mpr c11
            (first | rw [c11b0] | (simp only [i64_w, i32_w]; rw [c11b0]) | skip)
            by_cases c12 : a0 = 4
            · rw [if_pos c12] at H
              have c12b0 : (a0 == 4) = true := beq_iff_eq.mpr c12
              have c12b1 : (a0 != 4) = false := bne_eq_false_iff_eq.mpr c12
              clear c12
              have H' := Aside0.mk H
              clear H
              go_wp2
              go_meet
              case rel => exact ⟨_, ((a0 == 4)), (by first | rfl | (simp; done) | (simp [*]; done)), H', ⟨by have := HJ3.out; first | omega | exact Nat.le_refl _⟩, by repeat (first | exact Drawn0.refl _ | apply Drawn0.step)⟩
            · rw [if_neg c12] at H
              have c12b0 : (a0 == 4) = false := beq_eq_false_iff_ne.mpr c12
              have c12b1 : (a0 != 4) = true := bne_iff_ne.mpr c12
              have H' := Aside0.mk H
              clear H
              go_wp2
              go_meet
              case rel => exact ⟨_, ((a0 == 15)), (by first | rfl | (simp; done) | (simp [*]; done)), H', ⟨by have := HJ3.out; first | omega | exact Nat.le_refl _⟩, by repeat (first | exact Drawn0.refl _ | apply Drawn0.step)⟩
        case rest =>
          clear HC10
          try clear c1
          try clear p2
          try clear c3
          try clear c5
          try clear c5b0
          try clear c5b1
          try clear c6
          try clear c6b0
          try clear c6b1
          try clear p6
          try clear c7
          try clear c8
          try clear c9
          try clear c9b0
          try clear c11
          try clear c11b0
          try clear c11b1
          try clear c12
          try clear c12b0
          try clear c12b1
          try clear p2
          obtain ⟨kq, x32_9, rfl, HA, HJ9, ⟨mc9, rfl⟩⟩ := hcut
          cases kq with
          | zero => exact absurd HA.out (by simp [spec_DocSpan.j1])
          | succ kj9 =>
            have H := HA.out
            clear HA
            simp only [spec_DocSpan.j1] at H
            by_cases c13 : x32_9 = true
            · subst c13
              have H1 : (if t118 = true then (if t117 ≥ 0 then (some (t117, decide ((l1.length : Int) ≥ t117))) else (some (t117, false))) else (some (t117, false))) = some (r1, r2) := by rw [if_pos rfl] at H; exact H
              clear H
              have H := H1
              clear H1
              by_cases c14 : t118 = true
              · subst c14
                have H1 : (if t117 ≥ 0 then (some (t117, decide ((l1.length : Int) ≥ t117))) else (some (t117, false))) = some (r1, r2) := by rw [if_pos rfl] at H; exact H
                clear H
                have H := H1
                clear H1
                by_cases c15 : t117 ≥ 0
                · rw [if_pos c15] at H
                  have c15b0 : decide (0 ≤ t117) = true := decide_eq_true c15
                  clear c15
                  simp only [Option.some.injEq, Prod.mk.injEq] at H
                  obtain ⟨rfl, rfl⟩ := H
                  go_wp2
                  go_ret2
                  exact ⟨by first | rfl | (simp; done) | (simp [*]; done), by repeat (first | exact Drawn0.refl _ | apply Drawn0.step)⟩
                · rw [if_neg c15] at H
                  have c15b0 : decide (0 ≤ t117) = false := decide_eq_false c15
                  clear c15
                  simp only [Option.some.injEq, Prod.mk.injEq] at H
                  obtain ⟨rfl, rfl⟩ := H
                  go_wp2
                  go_ret2
                  exact ⟨by first | rfl | (simp; done) | (simp [*]; done), by repeat (first | exact Drawn0.refl _ | apply Drawn0.step)⟩
              · replace c14 := Bool.eq_false_iff.mpr c14
                subst c14
                have H1 : (some (t117, false)) = some (r1, r2) := by rw [if_neg (show ¬ (false = true) by decide)] at H; exact H
                clear H
                have H := H1
                clear H1
                simp only [Option.some.injEq, Prod.mk.injEq] at H
                obtain ⟨rfl, rfl⟩ := H
                go_wp2
                go_ret2
                exact ⟨by first | rfl | (simp; done) | (simp [*]; done), by repeat (first | exact Drawn0.refl _ | apply Drawn0.step)⟩
            · replace c13 := Bool.eq_false_iff.mpr c13
              subst c13
              have H1 : (if a0 = 12 then (if t118 = true then (if t117 ≥ 0 then (some (wrap64 (16 + t117), decide ((l1.length : Int) ≥ (wrap64 (16 + t117))))) else (some (wrap64 (16 + t117), false))) else (some (wrap64 (16 + t117), false))) else ((spec_DocLen.f kj9 a0 l1).bind fun bt119 => (some (bt119.1, bt119.2)))) = some (r1, r2) := by rw [if_neg (show ¬ (false = true) by decide)] at H; exact H
              clear H
              have H := H1
              clear H1
              by_cases c16 : a0 = 12
              · rw [if_pos c16] at H
                have c16b0 : (a0 == 12) = true := beq_iff_eq.mpr c16
                have c16b1 : (a0 != 12) = false := bne_eq_false_iff_eq.mpr c16
                clear c16
                by_cases c17 : t118 = true
                · subst c17
                  have H1 : (if t117 ≥ 0 then (some (wrap64 (16 + t117), decide ((l1.length : Int) ≥ (wrap64 (16 + t117))))) else (some (wrap64 (16 + t117), false))) = some (r1, r2) := by rw [if_pos rfl] at H; exact H
                  clear H
                  have H := H1
                  clear H1
                  by_cases c18 : t117 ≥ 0
                  · rw [if_pos c18] at H
                    have c18b0 : decide (0 ≤ t117) = true := decide_eq_true c18
                    clear c18
                    simp only [Option.some.injEq, Prod.mk.injEq] at H
                    obtain ⟨rfl, rfl⟩ := H
                    go_wp2
                    go_ret2
                    exact ⟨by first | rfl | (simp; done) | (simp [*]; done), by repeat (first | exact Drawn0.refl _ | apply Drawn0.step)⟩
                  · rw [if_neg c18] at H
                    have c18b0 : decide (0 ≤ t117) = false := decide_eq_false c18
                    clear c18
                    simp only [Option.some.injEq, Prod.mk.injEq] at H
                    obtain ⟨rfl, rfl⟩ := H
                    go_wp2
                    go_ret2
                    exact ⟨by first | rfl | (simp; done) | (simp [*]; done), by repeat (first | exact Drawn0.refl _ | apply Drawn0.step)⟩
                · replace c17 := Bool.eq_false_iff.mpr c17
                  subst c17
                  have H1 : (some (wrap64 (16 + t117), false)) = some (r1, r2) := by rw [if_neg (show ¬ (false = true) by decide)] at H; exact H
                  clear H
                  have H := H1
                  clear H1
                  simp only [Option.some.injEq, Prod.mk.injEq] at H
                  obtain ⟨rfl, rfl⟩ := H
                  go_wp2
                  go_ret2
                  exact ⟨by first | rfl | (simp; done) | (simp [*]; done), by repeat (first | exact Drawn0.refl _ | apply Drawn0.step)⟩
              · rw [if_neg c16] at H
                have c16b0 : (a0 == 12) = false := beq_eq_false_iff_ne.mpr c16
                have c16b1 : (a0 != 12) = true := bne_iff_ne.mpr c16
                replace H := Option.bind_eq_some_iff.mp H
                obtain ⟨⟨t119, t120⟩, A190, H⟩ := H
                replace H : (some (t119, t120)) = some (r1, r2) := H
                have A19 := Aside0.mk A190
                clear A190
                simp only [Option.some.injEq, Prod.mk.injEq] at H
                obtain ⟨rfl, rfl⟩ := H
                go_wp2_with (first | ((with_reducible refine gate_callee (f := 16) rfl ?_); refine goesL_ (some 66) rfl rfl Tryz.func16 (by kernel_rfl) rfl #[.int .i64 a0, .slice A1 l1.length c1] rfl (by (try simp only [List.map_toArray, List.map_cons, List.map_nil]); first | done | rfl | (simp only [List.length_drop, List.length_take]; rfl)) ?_; (with_reducible refine (spec_DocLen.calls kj9 a0 _ _ l1 t119 t120 _ ?side1 ?side2 A19.out).mono ?_); (case side1 => repeat (first | exact HR1.out | (with_reducible refine Kd.C_alloc ?_ _) | (with_reducible refine Kd.C_drewN ?_ _) | (with_reducible refine Kd.C_drew ?_))); (case side2 => exact HC1.out); rintro e w' ⟨rfl, ⟨nd, rfl⟩⟩; refine ⟨_, rfl, ?_⟩))
                go_ret2
                exact ⟨by first | rfl | (simp; done) | (simp [*]; done), by repeat (first | exact Drawn0.refl _ | apply Drawn0.step)⟩

end Go.Proofs.YtfhbnlbdmfjhlaaGreatDoor.PFnDocEqual
