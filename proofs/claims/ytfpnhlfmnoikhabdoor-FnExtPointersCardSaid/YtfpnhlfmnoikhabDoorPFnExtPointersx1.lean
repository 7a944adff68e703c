-- PRINTED BY print.sh 35421559b90ae4d0a3588c463048766b98c2df88dd9212a6774a882060cdf62d: not written by this session
import Derived.Test.YtfpnhlfmnoikhabDoorPFnExtPointersx0
namespace Go.Proofs.YtfpnhlfmnoikhabDoor.PFnExtPointers
open Go.RowKit Go.Proofs.YtfpnhlfmnoikhabDoorW.PrintWords Go.Proofs.YtfpnhlfmnoikhabDoorW.PrintLast Go.Proofs.YtfpnhlfmnoikhabDoorW.PrintMore
attribute [local go_sem] max2_int min2_int max_two min_two max_three min_three max_four min_four   -- for this text's walks alone
set_option linter.unusedVariables false
set_option linter.unusedSimpArgs false

/-! ### laws_zzFits2: function 7 -/
def laws_zzFits2.l0 : Nat → List ByteArray → Int → Int → Option (Bool)
  | 0, _, _, _ => none
  | k + 1, x8, x9, x10 => if x10 < x9 then (if 0 ≤ x10 then (if x10 < (x8.length : Int) then (if ((rdOf ByteArray.empty x8 x10).size : Int) > 2147483647 then (some false) else (laws_zzFits2.l0 k x8 x9 (wrap64 (x10 + 1)))) else (none)) else (none)) else (some true)
def laws_zzFits2.f (k : Nat) (l0 : List ByteArray) : Option (Bool) := if (l0.length : Int) > 2147483647 then (some false) else (laws_zzFits2.l0 k l0 (l0.length : Int) 0)
theorem laws_zzFits2.mono_l : ∀ k, (∀ y0 y1 y2, LeO (laws_zzFits2.l0 k y0 y1 y2) (laws_zzFits2.l0 (k + 1) y0 y1 y2))
  | 0 => fun _ _ _ r h => by simp [laws_zzFits2.l0] at h
  | k + 1 => by
    have ih0 := laws_zzFits2.mono_l k
    · intro y0 y1 y2
      unfold laws_zzFits2.l0
      repeat' first
      | (with_reducible exact ih0 _ _ _)
      | (with_reducible exact LeO.refl _)
      | (with_reducible exact LeO.none _)
      | (with_reducible refine LeO.ite ?_ ?_)
      | (with_reducible refine LeO.bind ?_ (fun _ => ?_))
      | exact ih0 _ _ _
      | exact LeO.none _
      | refine LeO.ite ?_ ?_
      | refine LeO.bind ?_ (fun _ => ?_)
theorem laws_zzFits2.mono : ∀ a0 k, LeO (laws_zzFits2.f k a0) (laws_zzFits2.f (k + 1) a0) := by
  intro a0 k
  have ih0 := laws_zzFits2.mono_l k
  unfold laws_zzFits2.f
  repeat' first
      | (with_reducible exact ih0 _ _ _)
      | (with_reducible exact LeO.refl _)
      | (with_reducible exact LeO.none _)
      | (with_reducible refine LeO.ite ?_ ?_)
      | (with_reducible refine LeO.bind ?_ (fun _ => ?_))
      | exact ih0 _ _ _
      | exact LeO.none _
      | refine LeO.ite ?_ ?_
      | refine LeO.bind ?_ (fun _ => ?_)
set_option maxHeartbeats 8000000 in
set_option maxRecDepth 100000 in
theorem laws_zzFits2.calls (k : Nat) (A0 : Option Addr) (c0 : Nat) (l0 : List ByteArray) (r : Bool) (w : World) (hr0 : Kd.C Kd.string w A0 l0.length l0) (hc0 : l0.length ≤ c0) (h : laws_zzFits2.f k l0 = some r) :
    Calls Tryd.prog 7 #[.slice A0 l0.length c0] w fun e w' => e = .returned (.bool r) ∧ Drawn0 w w' := by
  have HR0 := Aside0.mk hr0
  have HC0 := Aside0.mk hc0
  clear hr0 hc0
  have H : (if (l0.length : Int) > 2147483647 then (some false) else (laws_zzFits2.l0 k l0 (l0.length : Int) 0)) = some r := h
  clear h
  by_cases c2 : (l0.length : Int) > 2147483647
  · rw [if_pos c2] at H
    have c2b0 : decide (2147483647 < (l0.length : Int)) = true := decide_eq_true c2
    have c2b1 : decide (2147483647 < l0.length) = true := decide_eq_true (by omega)
    clear c2
    obtain rfl := Option.some.inj H
    go_enter Tryd.func7, Tryd.ntmps7
    go_wp2
    go_ret
    exact ⟨by first | rfl | (simp; done) | (simp [*]; done), by repeat (first | exact Drawn0.refl _ | apply Drawn0.step)⟩
  · rw [if_neg c2] at H
    have c2b0 : decide (2147483647 < (l0.length : Int)) = false := decide_eq_false c2
    have c2b1 : decide (2147483647 < l0.length) = false := decide_eq_false (by omega)
    clear c2
    have H' := Aside0.mk H
    clear H
    go_enter Tryd.func7, Tryd.ntmps7
    go_wp2
    go_loopg [10] k (fun kq v10 w' => ∃ (x10_1 : Int), v10 = .int .i64 x10_1 ∧ Aside0 (laws_zzFits2.l0 kq l0 (l0.length : Int) x10_1 = some r) ∧ Aside0 (kq ≤ k) ∧ Drawn0 w w')
    case atStart => exact ⟨(0), (by first | rfl | (simp; done) | (simp [*]; done)), H', ⟨Nat.le_refl _⟩, by repeat (first | exact Drawn0.refl _ | apply Drawn0.step)⟩
    case round =>
      clear H'
      try clear c2
      try clear c2b0
      try clear c2b1
      try clear p2
      obtain ⟨x10_1, rfl, HA, HK1, ⟨m1, rfl⟩⟩ := hrel
      cases gk with
      | zero => exact absurd HA.out (by simp [laws_zzFits2.l0])
      | succ k1 =>
        have H := HA.out
        clear HA
        simp only [laws_zzFits2.l0] at H
        by_cases c3 : x10_1 < (l0.length : Int)
        · rw [if_pos c3] at H
          have c3b0 : decide (x10_1 < (l0.length : Int)) = true := decide_eq_true c3
          clear c3
          by_cases c4 : 0 ≤ x10_1
          · rw [if_pos c4] at H
            have c4b0 : decide (0 ≤ x10_1) = true := decide_eq_true c4
            clear c4
            by_cases c5 : x10_1 < (l0.length : Int)
            · rw [if_pos c5] at H
              have c5b0 : decide (x10_1 < (l0.length : Int)) = true := decide_eq_true c5
              clear c5
              by_cases c6 : ((rdOf ByteArray.empty l0 x10_1).size : Int) > 2147483647
              · rw [if_pos c6] at H
                have c6b0 : decide (2147483647 < ((rdOf ByteArray.empty l0 x10_1).size : Int)) = true := decide_eq_true c6
                have c6b1 : decide (2147483647 < (rdOf ByteArray.empty l0 x10_1).size) = true := decide_eq_true (by omega)
                clear c6
                obtain rfl := Option.some.inj H
                have p101 : 0 ≤ (x10_1 : Int) := of_decide_eq_true (by first | (with_reducible assumption) | assumption)
                have q101 : x10_1 < (l0.length : Int) := of_decide_eq_true (by first | (with_reducible assumption) | assumption)
                obtain ⟨ad101, e101, hx101_0⟩ := Kd.at_string HR0.out x10_1 p101 q101
                cases e101
                replace p101 := eq_true p101
                replace q101 := eq_true q101
                go_wp2
                go_ret
                exact ⟨by first | rfl | (simp; done) | (simp [*]; done), by repeat (first | exact Drawn0.refl _ | apply Drawn0.step)⟩
              · rw [if_neg c6] at H
                have c6b0 : decide (2147483647 < ((rdOf ByteArray.empty l0 x10_1).size : Int)) = false := decide_eq_false c6
                have c6b1 : decide (2147483647 < (rdOf ByteArray.empty l0 x10_1).size) = false := decide_eq_false (by omega)
                clear c6
                have H' := Aside0.mk H
                clear H
                have p101 : 0 ≤ (x10_1 : Int) := of_decide_eq_true (by first | (with_reducible assumption) | assumption)
                have q101 : x10_1 < (l0.length : Int) := of_decide_eq_true (by first | (with_reducible assumption) | assumption)
                obtain ⟨ad101, e101, hx101_0⟩ := Kd.at_string HR0.out x10_1 p101 q101
                cases e101
                replace p101 := eq_true p101
                replace q101 := eq_true q101
                go_wp2
                go_roundg k1
                case measure => have := HK1.out; omega
                case rel => exact ⟨(wrap64 (x10_1 + 1)), (by first | rfl | (simp; done) | (simp [*]; done)), H', ⟨by have := HK1.out; omega⟩, by repeat (first | exact Drawn0.refl _ | apply Drawn0.step)⟩
            · rw [if_neg c5] at H
              exact absurd H (by simp)
          · rw [if_neg c4] at H
            exact absurd H (by simp)
        · rw [if_neg c3] at H
          have c3b0 : decide (x10_1 < (l0.length : Int)) = false := decide_eq_false c3
          clear c3
          obtain rfl := Option.some.inj H
          go_wp2
          go_ret
          exact ⟨by first | rfl | (simp; done) | (simp [*]; done), by repeat (first | exact Drawn0.refl _ | apply Drawn0.step)⟩

/-! ### laws_extPlain: function 8 -/
mutual
def laws_extPlain.l0 : Nat → List (List ByteArray) → Int → Int → Option (Bool)
  | 0, _, _, _ => none
  | k + 1, x7, x8, x9 => if x9 < x8 then (if 0 ≤ x9 then (if x9 < (x7.length : Int) then (if ((rd_L1 x7 x9).length : Int) > 6 then (some false) else (laws_extPlain.l1 k x7 x8 x9 (rd_L1 x7 x9) ((rd_L1 x7 x9).length : Int) 0)) else (none)) else (none)) else (some true)
def laws_extPlain.l1 : Nat → List (List ByteArray) → Int → Int → List ByteArray → Int → Int → Option (Bool)
  | 0, _, _, _, _, _, _ => none
  | k + 1, x7, x8, x9, x16, x17, x18 => if x18 < x17 then (if 0 ≤ x18 then (if x18 < (x16.length : Int) then (if ((rdOf ByteArray.empty x16 x18).size : Int) > 300 then (some false) else (laws_extPlain.l1 k x7 x8 x9 x16 x17 (wrap64 (x18 + 1)))) else (none)) else (none)) else (laws_extPlain.l0 k x7 x8 (wrap64 (x9 + 1)))
end
def laws_extPlain.f (k : Nat) (l0 : List (List ByteArray)) : Option (Bool) := laws_extPlain.l0 k l0 (l0.length : Int) 0
theorem laws_extPlain.mono_l : ∀ k, (∀ y0 y1 y2, LeO (laws_extPlain.l0 k y0 y1 y2) (laws_extPlain.l0 (k + 1) y0 y1 y2)) ∧ (∀ y0 y1 y2 y3 y4 y5, LeO (laws_extPlain.l1 k y0 y1 y2 y3 y4 y5) (laws_extPlain.l1 (k + 1) y0 y1 y2 y3 y4 y5))
  | 0 => ⟨fun _ _ _ r h => by simp [laws_extPlain.l0] at h, fun _ _ _ _ _ _ r h => by simp [laws_extPlain.l1] at h⟩
  | k + 1 => by
    obtain ⟨ih0, ih1⟩ := laws_extPlain.mono_l k
    refine ⟨?_, ?_⟩
    · intro y0 y1 y2
      unfold laws_extPlain.l0
      repeat' first
      | (with_reducible exact ih0 _ _ _)
      | (with_reducible exact ih1 _ _ _ _ _ _)
      | (with_reducible exact LeO.refl _)
      | (with_reducible exact LeO.none _)
      | (with_reducible refine LeO.ite ?_ ?_)
      | (with_reducible refine LeO.bind ?_ (fun _ => ?_))
      | exact ih0 _ _ _
      | exact ih1 _ _ _ _ _ _
      | exact LeO.none _
      | refine LeO.ite ?_ ?_
      | refine LeO.bind ?_ (fun _ => ?_)
    · intro y0 y1 y2 y3 y4 y5
      unfold laws_extPlain.l1
      repeat' first
      | (with_reducible exact ih0 _ _ _)
      | (with_reducible exact ih1 _ _ _ _ _ _)
      | (with_reducible exact LeO.refl _)
      | (with_reducible exact LeO.none _)
      | (with_reducible refine LeO.ite ?_ ?_)
      | (with_reducible refine LeO.bind ?_ (fun _ => ?_))
      | exact ih0 _ _ _
      | exact ih1 _ _ _ _ _ _
      | exact LeO.none _
      | refine LeO.ite ?_ ?_
      | refine LeO.bind ?_ (fun _ => ?_)
theorem laws_extPlain.mono : ∀ a0 k, LeO (laws_extPlain.f k a0) (laws_extPlain.f (k + 1) a0) := by
  intro a0 k
  obtain ⟨ih0, ih1⟩ := laws_extPlain.mono_l k
  unfold laws_extPlain.f
  repeat' first
      | (with_reducible exact ih0 _ _ _)
      | (with_reducible exact ih1 _ _ _ _ _ _)
      | (with_reducible exact LeO.refl _)
      | (with_reducible exact LeO.none _)
      | (with_reducible refine LeO.ite ?_ ?_)
      | (with_reducible refine LeO.bind ?_ (fun _ => ?_))
      | exact ih0 _ _ _
      | exact ih1 _ _ _ _ _ _
      | exact LeO.none _
      | refine LeO.ite ?_ ?_
      | refine LeO.bind ?_ (fun _ => ?_)
set_option maxHeartbeats 8000000 in
set_option maxRecDepth 100000 in
theorem laws_extPlain.calls (k : Nat) (A0 : Option Addr) (c0 : Nat) (l0 : List (List ByteArray)) (r : Bool) (w : World) (hr0 : Kd.C (Kd.slice 9 Kd.string) w A0 l0.length l0) (hc0 : l0.length ≤ c0) (h : laws_extPlain.f k l0 = some r) :
    Calls Tryd.prog 8 #[.slice A0 l0.length c0] w fun e w' => e = .returned (.bool r) ∧ Drawn0 w w' := by
  have HR0 := Aside0.mk hr0
  have HC0 := Aside0.mk hc0
  clear hr0 hc0
  have H : (laws_extPlain.l0 k l0 (l0.length : Int) 0) = some r := h
  clear h
  have H' := Aside0.mk H
  clear H
  go_enter Tryd.func8, Tryd.ntmps8
  go_wp2
  go_loopg [9] k (fun kq v9 w' => ∃ (x9_1 : Int), v9 = .int .i64 x9_1 ∧ Aside0 (laws_extPlain.l0 kq l0 (l0.length : Int) x9_1 = some r) ∧ Aside0 (kq ≤ k) ∧ Drawn0 w w')
  case atStart => exact ⟨(0), (by first | rfl | (simp; done) | (simp [*]; done)), H', ⟨Nat.le_refl _⟩, by repeat (first | exact Drawn0.refl _ | apply Drawn0.step)⟩
  case round =>
    clear H'
    obtain ⟨x9_1, rfl, HA, HK1, ⟨m1, rfl⟩⟩ := hrel
    cases gk with
    | zero => exact absurd HA.out (by simp [laws_extPlain.l0])
    | succ k1 =>
      have H := HA.out
      clear HA
      simp only [laws_extPlain.l0] at H
      by_cases c2 : x9_1 < (l0.length : Int)
      · rw [if_pos c2] at H
        have c2b0 : decide (x9_1 < (l0.length : Int)) = true := decide_eq_true c2
        clear c2
        by_cases c3 : 0 ≤ x9_1
        · rw [if_pos c3] at H
          have c3b0 : decide (0 ≤ x9_1) = true := decide_eq_true c3
          clear c3
          by_cases c4 : x9_1 < (l0.length : Int)
          · rw [if_pos c4] at H
            have c4b0 : decide (x9_1 < (l0.length : Int)) = true := decide_eq_true c4
            clear c4
            by_cases c5 : ((rd_L1 l0 x9_1).length : Int) > 6
            · rw [if_pos c5] at H
              have c5b0 : decide (6 < ((rd_L1 l0 x9_1).length : Int)) = true := decide_eq_true c5
              have c5b1 : decide (6 < (rd_L1 l0 x9_1).length) = true := decide_eq_true (by omega)
              clear c5
              obtain rfl := Option.some.inj H
              have p102 : 0 ≤ (x9_1 : Int) := of_decide_eq_true (by first | (with_reducible assumption) | assumption)
              have q102 : x9_1 < (l0.length : Int) := of_decide_eq_true (by first | (with_reducible assumption) | assumption)
              obtain ⟨ad102, A102_0, c102_0, e102, hx102_0, hl102_0, hi102_0⟩ := at_L1 HR0.out x9_1 p102 q102
              cases e102
              have HR102_0 := Aside0.mk hi102_0
              have HC102_0 := Aside0.mk hl102_0
              clear hi102_0 hl102_0
              replace p102 := eq_true p102
              replace q102 := eq_true q102
              go_wp2
              go_ret
              exact ⟨by first | rfl | (simp; done) | (simp [*]; done), by repeat (first | exact Drawn0.refl _ | apply Drawn0.step)⟩
            · rw [if_neg c5] at H
              have c5b0 : decide (6 < ((rd_L1 l0 x9_1).length : Int)) = false := decide_eq_false c5
              have c5b1 : decide (6 < (rd_L1 l0 x9_1).length) = false := decide_eq_false (by omega)
              clear c5
              have H' := Aside0.mk H
              clear H
              have p102 : 0 ≤ (x9_1 : Int) := of_decide_eq_true (by first | (with_reducible assumption) | assumption)
              have q102 : x9_1 < (l0.length : Int) := of_decide_eq_true (by first | (with_reducible assumption) | assumption)
              obtain ⟨ad102, A102_0, c102_0, e102, hx102_0, hl102_0, hi102_0⟩ := at_L1 HR0.out x9_1 p102 q102
              cases e102
              have HR102_0 := Aside0.mk hi102_0
              have HC102_0 := Aside0.mk hl102_0
              clear hi102_0 hl102_0
              replace p102 := eq_true p102
              replace q102 := eq_true q102
              go_wp2
              go_loopg [18] k1 (fun kq v18 w' => ∃ (x18_2 : Int), v18 = .int .i64 x18_2 ∧ Aside0 (laws_extPlain.l1 kq l0 (l0.length : Int) x9_1 (rd_L1 l0 x9_1) ((rd_L1 l0 x9_1).length : Int) x18_2 = some r) ∧ Aside0 (kq ≤ k1) ∧ Drawn0 w w')
              case atStart => exact ⟨(0), (by first | rfl | (simp; done) | (simp [*]; done)), H', ⟨Nat.le_refl _⟩, by repeat (first | exact Drawn0.refl _ | apply Drawn0.step)⟩
              case round =>
                clear H'
                try clear c1
                try clear p1
                try clear q1
                try clear hx1
                try clear c2
                try clear c2b0
                try clear p2
                try clear c3
                try clear c3b0
                try clear c4
                try clear c4b0
                try clear c5
                try clear c5b0
                try clear c5b1
                try clear hx102_0
                try clear p102
                try clear q102
                obtain ⟨x18_2, rfl, HA, HK2, ⟨m2, rfl⟩⟩ := hrel
                cases gk with
                | zero => exact absurd HA.out (by simp [laws_extPlain.l1])
                | succ k2 =>
                  have H := HA.out
                  clear HA
                  simp only [laws_extPlain.l1] at H
                  by_cases c6 : x18_2 < ((rd_L1 l0 x9_1).length : Int)
                  · rw [if_pos c6] at H
                    have c6b0 : decide (x18_2 < ((rd_L1 l0 x9_1).length : Int)) = true := decide_eq_true c6
                    clear c6
                    by_cases c7 : 0 ≤ x18_2
                    · rw [if_pos c7] at H
                      have c7b0 : decide (0 ≤ x18_2) = true := decide_eq_true c7
                      clear c7
                      by_cases c8 : x18_2 < ((rd_L1 l0 x9_1).length : Int)
                      · rw [if_pos c8] at H
                        have c8b0 : decide (x18_2 < ((rd_L1 l0 x9_1).length : Int)) = true := decide_eq_true c8
                        clear c8
                        by_cases c9 : ((rdOf ByteArray.empty (rd_L1 l0 x9_1) x18_2).size : Int) > 300
                        · rw [if_pos c9] at H
                          have c9b0 : decide (300 < ((rdOf ByteArray.empty (rd_L1 l0 x9_1) x18_2).size : Int)) = true := decide_eq_true c9
                          have c9b1 : decide (300 < (rdOf ByteArray.empty (rd_L1 l0 x9_1) x18_2).size) = true := decide_eq_true (by omega)
                          clear c9
                          obtain rfl := Option.some.inj H
                          have p103 : 0 ≤ (x18_2 : Int) := of_decide_eq_true (by first | (with_reducible assumption) | assumption)
                          have q103 : x18_2 < ((rd_L1 l0 x9_1).length : Int) := of_decide_eq_true (by first | (with_reducible assumption) | assumption)
                          obtain ⟨ad103, e103, hx103_0⟩ := Kd.at_string HR102_0.out x18_2 p103 q103
                          cases e103
                          replace p103 := eq_true p103
                          replace q103 := eq_true q103
                          go_wp2
                          go_ret
                          exact ⟨by first | rfl | (simp; done) | (simp [*]; done), by repeat (first | exact Drawn0.refl _ | apply Drawn0.step)⟩
                        · rw [if_neg c9] at H
                          have c9b0 : decide (300 < ((rdOf ByteArray.empty (rd_L1 l0 x9_1) x18_2).size : Int)) = false := decide_eq_false c9
                          have c9b1 : decide (300 < (rdOf ByteArray.empty (rd_L1 l0 x9_1) x18_2).size) = false := decide_eq_false (by omega)
                          clear c9
                          have H' := Aside0.mk H
                          clear H
                          have p103 : 0 ≤ (x18_2 : Int) := of_decide_eq_true (by first | (with_reducible assumption) | assumption)
                          have q103 : x18_2 < ((rd_L1 l0 x9_1).length : Int) := of_decide_eq_true (by first | (with_reducible assumption) | assumption)
                          obtain ⟨ad103, e103, hx103_0⟩ := Kd.at_string HR102_0.out x18_2 p103 q103
                          cases e103
                          replace p103 := eq_true p103
                          replace q103 := eq_true q103
                          go_wp2
                          go_roundg k2
                          case measure => have := HK1.out; have := HK2.out; omega
                          case rel => exact ⟨(wrap64 (x18_2 + 1)), (by first | rfl | (simp; done) | (simp [*]; done)), H', ⟨by have := HK1.out; have := HK2.out; omega⟩, by repeat (first | exact Drawn0.refl _ | apply Drawn0.step)⟩
                      · rw [if_neg c8] at H
                        exact absurd H (by simp)
                    · rw [if_neg c7] at H
                      exact absurd H (by simp)
                  · rw [if_neg c6] at H
                    have c6b0 : decide (x18_2 < ((rd_L1 l0 x9_1).length : Int)) = false := decide_eq_false c6
                    clear c6
                    have H' := Aside0.mk H
                    clear H
                    go_wp2
                    go_roundg k2
                    case measure => have := HK1.out; have := HK2.out; omega
                    case rel => exact ⟨(wrap64 (x9_1 + 1)), (by first | rfl | (simp; done) | (simp [*]; done)), H', ⟨by have := HK1.out; have := HK2.out; omega⟩, by repeat (first | exact Drawn0.refl _ | apply Drawn0.step)⟩
          · rw [if_neg c4] at H
            exact absurd H (by simp)
        · rw [if_neg c3] at H
          exact absurd H (by simp)
      · rw [if_neg c2] at H
        have c2b0 : decide (x9_1 < (l0.length : Int)) = false := decide_eq_false c2
        clear c2
        obtain rfl := Option.some.inj H
        go_wp2
        go_ret
        exact ⟨by first | rfl | (simp; done) | (simp [*]; done), by repeat (first | exact Drawn0.refl _ | apply Drawn0.step)⟩

/-! ### spec_extPair: function 15 -/
mutual
def spec_extPair.j0 : Nat → List ByteArray → List ByteArray → ByteArray → ByteArray → Bool → Option (ByteArray × ByteArray × Bool)
  | 0, _, _, _, _, _ => none
  | k + 1, x0, x1, x2, x3, x18 => if x18 = true then (some ((⟨#[]⟩ : ByteArray), (⟨#[]⟩ : ByteArray), false)) else (if 0 < (x0.length : Int) then (if (rdOf ByteArray.empty x0 0).toList = x2.toList then (if 1 < (x0.length : Int) then (spec_extPair.j1 k x0 x1 x2 x3 ((rdOf ByteArray.empty x0 1).toList == x3.toList)) else (none)) else (spec_extPair.j1 k x0 x1 x2 x3 false)) else (none))
def spec_extPair.j1 : Nat → List ByteArray → List ByteArray → ByteArray → ByteArray → Bool → Option (ByteArray × ByteArray × Bool)
  | 0, _, _, _, _, _ => none
  | k + 1, x0, x1, x2, x3, x19 => if x19 = true then (if 0 < (x1.length : Int) then (if 1 < (x1.length : Int) then (some (rdOf ByteArray.empty x1 0, rdOf ByteArray.empty x1 1, true)) else (none)) else (none)) else (if 0 < (x0.length : Int) then (if (rdOf ByteArray.empty x0 0).toList = x3.toList then (if 1 < (x0.length : Int) then (if (rdOf ByteArray.empty x0 1).toList = x2.toList then (if 1 < (x1.length : Int) then (if 0 < (x1.length : Int) then (some (rdOf ByteArray.empty x1 1, rdOf ByteArray.empty x1 0, true)) else (none)) else (none)) else (some ((⟨#[]⟩ : ByteArray), (⟨#[]⟩ : ByteArray), false))) else (none)) else (some ((⟨#[]⟩ : ByteArray), (⟨#[]⟩ : ByteArray), false))) else (none))
end
def spec_extPair.f (k : Nat) (l0 : List ByteArray) (l1 : List ByteArray) (a2 : ByteArray) (a3 : ByteArray) : Option (ByteArray × ByteArray × Bool) := if (l0.length : Int) = 2 then (spec_extPair.j0 k l0 l1 a2 a3 ((l1.length : Int) != 2)) else (spec_extPair.j0 k l0 l1 a2 a3 true)
theorem spec_extPair.mono_l : ∀ k, (∀ y0 y1 y2 y3 y4, LeO (spec_extPair.j0 k y0 y1 y2 y3 y4) (spec_extPair.j0 (k + 1) y0 y1 y2 y3 y4)) ∧ (∀ y0 y1 y2 y3 y4, LeO (spec_extPair.j1 k y0 y1 y2 y3 y4) (spec_extPair.j1 (k + 1) y0 y1 y2 y3 y4))
  | 0 => ⟨fun _ _ _ _ _ r h => by simp [spec_extPair.j0] at h, fun _ _ _ _ _ r h => by simp [spec_extPair.j1] at h⟩
  | k + 1 => by
    obtain ⟨ih0, ih1⟩ := spec_extPair.mono_l k
    refine ⟨?_, ?_⟩
    · intro y0 y1 y2 y3 y4
      unfold spec_extPair.j0
      repeat' first
      | (with_reducible exact ih0 _ _ _ _ _)
      | (with_reducible exact ih1 _ _ _ _ _)
      | (with_reducible exact LeO.refl _)
      | (with_reducible exact LeO.none _)
      | (with_reducible refine LeO.ite ?_ ?_)
      | (with_reducible refine LeO.bind ?_ (fun _ => ?_))
      | exact ih0 _ _ _ _ _
      | exact ih1 _ _ _ _ _
      | exact LeO.none _
      | refine LeO.ite ?_ ?_
      | refine LeO.bind ?_ (fun _ => ?_)
    · intro y0 y1 y2 y3 y4
      unfold spec_extPair.j1
      repeat' first
      | (with_reducible exact ih0 _ _ _ _ _)
      | (with_reducible exact ih1 _ _ _ _ _)
      | (with_reducible exact LeO.refl _)
      | (with_reducible exact LeO.none _)
      | (with_reducible refine LeO.ite ?_ ?_)
      | (with_reducible refine LeO.bind ?_ (fun _ => ?_))
      | exact ih0 _ _ _ _ _
      | exact ih1 _ _ _ _ _
      | exact LeO.none _
      | refine LeO.ite ?_ ?_
      | refine LeO.bind ?_ (fun _ => ?_)
theorem spec_extPair.mono : ∀ a0 a1 a2 a3 k, LeO (spec_extPair.f k a0 a1 a2 a3) (spec_extPair.f (k + 1) a0 a1 a2 a3) := by
  intro a0 a1 a2 a3 k
  obtain ⟨ih0, ih1⟩ := spec_extPair.mono_l k
  unfold spec_extPair.f
  repeat' first
      | (with_reducible exact ih0 _ _ _ _ _)
      | (with_reducible exact ih1 _ _ _ _ _)
      | (with_reducible exact LeO.refl _)
      | (with_reducible exact LeO.none _)
      | (with_reducible refine LeO.ite ?_ ?_)
      | (with_reducible refine LeO.bind ?_ (fun _ => ?_))
      | exact ih0 _ _ _ _ _
      | exact ih1 _ _ _ _ _
      | exact LeO.none _
      | refine LeO.ite ?_ ?_
      | refine LeO.bind ?_ (fun _ => ?_)
set_option maxHeartbeats 8000000 in
set_option maxRecDepth 100000 in
theorem spec_extPair.calls (k : Nat) (A0 : Option Addr) (c0 : Nat) (l0 : List ByteArray) (A1 : Option Addr) (c1 : Nat) (l1 : List ByteArray) (a2 : ByteArray) (a3 : ByteArray) (r1 : ByteArray) (r2 : ByteArray) (r3 : Bool) (w : World) (hr0 : Kd.C Kd.string w A0 l0.length l0) (hc0 : l0.length ≤ c0) (hr1 : Kd.C Kd.string w A1 l1.length l1) (hc1 : l1.length ≤ c1) (h : spec_extPair.f k l0 l1 a2 a3 = some (r1, r2, r3)) :
    Calls Tryd.prog 15 #[.slice A0 l0.length c0, .slice A1 l1.length c1, .string a2, .string a3] w fun e w' => e = .returned (.tuple #[.string r1, .string r2, .bool r3]) ∧ Drawn0 w w' := by
  have HR0 := Aside0.mk hr0
  have HC0 := Aside0.mk hc0
  clear hr0 hc0
  have HR1 := Aside0.mk hr1
  have HC1 := Aside0.mk hc1
  clear hr1 hc1
  have H : (if (l0.length : Int) = 2 then (spec_extPair.j0 k l0 l1 a2 a3 ((l1.length : Int) != 2)) else (spec_extPair.j0 k l0 l1 a2 a3 true)) = some (r1, r2, r3) := h
  clear h
  have HC5 := Aside0.mk H
  clear H
  go_enter Tryd.func15, Tryd.ntmps15
  go_upto_region 1 with (fail)
  repeat (go_quiet (fail); go_upto_region 1 with (fail))
  go_cut [18] (fun v18 wc => ∃ (kq : Nat) (x18_4 : Bool), v18 = .bool x18_4 ∧ Aside0 (spec_extPair.j0 kq l0 l1 a2 a3 x18_4 = some (r1, r2, r3)) ∧ Aside0 (kq ≤ k) ∧ Drawn0 w wc)
  case first =>
    have H := HC5.out
    clear HC5
    by_cases c6 : (l0.length : Int) = 2
    · rw [if_pos c6] at H
      have c6b0 : ((l0.length : Int) == 2) = true := beq_iff_eq.mpr c6
      have c6b1 : ((l0.length : Int) != 2) = false := bne_eq_false_iff_eq.mpr c6
      clear c6
      (first | rw [c6b0] | (simp only [i64_w, i32_w]; rw [c6b0]) | skip)
      have H' := Aside0.mk H
      clear H
      go_wp2
      repeat (go_quiet (fail); try go_wp2)
      go_meet
      case rel => exact ⟨_, (((l1.length : Int) != 2)), (by first | rfl | (simp; done) | (simp [*]; done)), H', ⟨by first | omega | exact Nat.le_refl _⟩, by repeat (first | exact Drawn0.refl _ | apply Drawn0.step)⟩
    · rw [if_neg c6] at H
      have c6b0 : ((l0.length : Int) == 2) = false := beq_eq_false_iff_ne.mpr c6
      have c6b1 : ((l0.length : Int) != 2) = true := bne_iff_ne.mpr c6
      (first | rw [c6b0] | (simp only [i64_w, i32_w]; rw [c6b0]) | skip)
      have H' := Aside0.mk H
      clear H
      go_wp2
      repeat (go_quiet (fail); try go_wp2)
      go_meet
      case rel => exact ⟨_, (true), (by first | rfl | (simp; done) | (simp [*]; done)), H', ⟨by first | omega | exact Nat.le_refl _⟩, by repeat (first | exact Drawn0.refl _ | apply Drawn0.step)⟩
  case rest =>
    clear HC5
    try clear c1
    try clear p2
    try clear c6
    try clear c6b0
    try clear c6b1
    obtain ⟨kq, x18_4, rfl, HA, HJ4, ⟨mc4, rfl⟩⟩ := hcut
    cases kq with
    | zero => exact absurd HA.out (by simp [spec_extPair.j0])
    | succ kj4 =>
      have H := HA.out
      clear HA
      simp only [spec_extPair.j0] at H
      by_cases c7 : x18_4 = true
      · subst c7
        have H1 : (some ((⟨#[]⟩ : ByteArray), (⟨#[]⟩ : ByteArray), false)) = some (r1, r2, r3) := by rw [if_pos rfl] at H; exact H
        clear H
        have H := H1
        clear H1
        simp only [Option.some.injEq, Prod.mk.injEq] at H
        obtain ⟨rfl, rfl, rfl⟩ := H
        go_wp2
        repeat (go_quiet (fail); try go_wp2)
        go_ret3
        exact ⟨by first | rfl | (simp; done) | (simp [*]; done), by repeat (first | exact Drawn0.refl _ | apply Drawn0.step)⟩
      · replace c7 := Bool.eq_false_iff.mpr c7
        subst c7
        have H1 : (if 0 < (l0.length : Int) then (if (rdOf ByteArray.empty l0 0).toList = a2.toList then (if 1 < (l0.length : Int) then (spec_extPair.j1 kj4 l0 l1 a2 a3 ((rdOf ByteArray.empty l0 1).toList == a3.toList)) else (none)) else (spec_extPair.j1 kj4 l0 l1 a2 a3 false)) else (none)) = some (r1, r2, r3) := by rw [if_neg (show ¬ (false = true) by decide)] at H; exact H
        clear H
        have H := H1
        clear H1
        have HC8 := Aside0.mk H
        clear H
        go_upto_region 3 with (fail)
        repeat (go_quiet (fail); go_upto_region 3 with (fail))
        go_cut [19] (fun v19 wc => ∃ (kq : Nat) (x19_7 : Bool), v19 = .bool x19_7 ∧ Aside0 (spec_extPair.j1 kq l0 l1 a2 a3 x19_7 = some (r1, r2, r3)) ∧ Aside0 (kq ≤ kj4) ∧ Drawn0 w wc)
        case first =>
          have H := HC8.out
          clear HC8
          by_cases c9 : 0 < (l0.length : Int)
          · rw [if_pos c9] at H
            have c9b0 : decide (0 < (l0.length : Int)) = true := decide_eq_true c9
            have c9b1 : decide (0 < l0.length) = true := decide_eq_true (by omega)
            clear c9
            (first | rw [c9b0] | (simp only [i64_w, i32_w]; rw [c9b0]) | skip)
            by_cases c10 : (rdOf ByteArray.empty l0 0).toList = a2.toList
            · rw [if_pos c10] at H
              have c10b0 : ((rdOf ByteArray.empty l0 0).toList == a2.toList) = true := beq_iff_eq.mpr c10
              have c10b1 : ((rdOf ByteArray.empty l0 0).toList != a2.toList) = false := bne_eq_false_iff_eq.mpr c10
              clear c10
              by_cases c11 : 1 < (l0.length : Int)
              · rw [if_pos c11] at H
                have c11b0 : decide (1 < (l0.length : Int)) = true := decide_eq_true c11
                have c11b1 : decide (1 < l0.length) = true := decide_eq_true (by omega)
                clear c11
                have H' := Aside0.mk H
                clear H
                have p104 : 0 ≤ (0 : Int) := (by omega)
                have q104 : 0 < (l0.length : Int) := of_decide_eq_true (by first | (with_reducible assumption) | assumption)
                obtain ⟨ad104, e104, hx104_0⟩ := Kd.at_string HR0.out 0 p104 q104
                cases e104
                have qi104 : (0 < l0.length) = True := eq_true (by omega)
                (try rw [show ((0 : Int)).toNat = 0 from rfl] at hx104_0)
                (try rw [Addr.add_zero'] at hx104_0)
                replace p104 := eq_true p104
                replace q104 := eq_true q104
                have p105 : 0 ≤ (1 : Int) := (by omega)
                have q105 : 1 < (l0.length : Int) := of_decide_eq_true (by first | (with_reducible assumption) | assumption)
                obtain ⟨ad105, e105, hx105_0⟩ := Kd.at_string HR0.out 1 p105 q105
                obtain rfl : ad104 = ad105 := (by injection e105)
                (try simp only [show (1 : Int).toNat = 1 from rfl, Nat.reduceMul, Nat.reduceEqDiff, Go.Addr.add, ↓reduceIte] at hx105_0)
                have qi105 : (1 < l0.length) = True := eq_true (by omega)
                (try rw [show ((1 : Int)).toNat = 1 from rfl] at hx105_0)
                replace p105 := eq_true p105
                replace q105 := eq_true q105
                go_wp2
                repeat (go_quiet (fail); try go_wp2)
                go_meet
                case rel => exact ⟨_, (((rdOf ByteArray.empty l0 1).toList == a3.toList)), (by first | rfl | (simp; done) | (simp [*]; done)), H', ⟨by have := HJ4.out; first | omega | exact Nat.le_refl _⟩, by repeat (first | exact Drawn0.refl _ | apply Drawn0.step)⟩
              · rw [if_neg c11] at H
                exact absurd H (by simp)
            · rw [if_neg c10] at H
              have c10b0 : ((rdOf ByteArray.empty l0 0).toList == a2.toList) = false := beq_eq_false_iff_ne.mpr c10
              have c10b1 : ((rdOf ByteArray.empty l0 0).toList != a2.toList) = true := bne_iff_ne.mpr c10
              have H' := Aside0.mk H
              clear H
              have p104 : 0 ≤ (0 : Int) := (by omega)
              have q104 : 0 < (l0.length : Int) := of_decide_eq_true (by first | (with_reducible assumption) | assumption)
              obtain ⟨ad104, e104, hx104_0⟩ := Kd.at_string HR0.out 0 p104 q104
              cases e104
              have qi104 : (0 < l0.length) = True := eq_true (by omega)
              (try rw [show ((0 : Int)).toNat = 0 from rfl] at hx104_0)
              (try rw [Addr.add_zero'] at hx104_0)
              replace p104 := eq_true p104
              replace q104 := eq_true q104
              go_wp2
              repeat (go_quiet (fail); try go_wp2)
              go_meet
              case rel => exact ⟨_, (false), (by first | rfl | (simp; done) | (simp [*]; done)), H', ⟨by have := HJ4.out; first | omega | exact Nat.le_refl _⟩, by repeat (first | exact Drawn0.refl _ | apply Drawn0.step)⟩
          · rw [if_neg c9] at H
            exact absurd H (by simp)
        case rest =>
          clear HC8
          try clear c1
          try clear p1
          try clear q1
          try clear hx1
          try clear qi1
          try clear p2
          try clear c4
          try clear c6
          try clear c6b0
          try clear c6b1
          try clear c7
          try clear c9
          try clear c9b0
          try clear c9b1
          try clear c10
          try clear c10b0
          try clear c10b1
          try clear p10
          try clear q10
          try clear hx10
          try clear qi10
          try clear c11
          try clear c11b0
          try clear c11b1
          try clear hx104_0
          try clear hx105_0
          try clear p104
          try clear p105
          try clear p2
          try clear q104
          try clear q105
          obtain ⟨kq, x19_7, rfl, HA, HJ7, ⟨mc7, rfl⟩⟩ := hcut
          cases kq with
          | zero => exact absurd HA.out (by simp [spec_extPair.j1])
          | succ kj7 =>
            have H := HA.out
            clear HA
            simp only [spec_extPair.j1] at H
            by_cases c12 : x19_7 = true
            · subst c12
              have H1 : (if 0 < (l1.length : Int) then (if 1 < (l1.length : Int) then (some (rdOf ByteArray.empty l1 0, rdOf ByteArray.empty l1 1, true)) else (none)) else (none)) = some (r1, r2, r3) := by rw [if_pos rfl] at H; exact H
              clear H
              have H := H1
              clear H1
              by_cases c13 : 0 < (l1.length : Int)
              · rw [if_pos c13] at H
                have c13b0 : decide (0 < (l1.length : Int)) = true := decide_eq_true c13
                have c13b1 : decide (0 < l1.length) = true := decide_eq_true (by omega)
                clear c13
                by_cases c14 : 1 < (l1.length : Int)
                · rw [if_pos c14] at H
                  have c14b0 : decide (1 < (l1.length : Int)) = true := decide_eq_true c14
                  have c14b1 : decide (1 < l1.length) = true := decide_eq_true (by omega)
                  clear c14
                  simp only [Option.some.injEq, Prod.mk.injEq] at H
                  obtain ⟨rfl, rfl, rfl⟩ := H
                  have p106 : 0 ≤ (0 : Int) := (by omega)
                  have q106 : 0 < (l1.length : Int) := of_decide_eq_true (by first | (with_reducible assumption) | assumption)
                  obtain ⟨ad106, e106, hx106_0⟩ := Kd.at_string HR1.out 0 p106 q106
                  cases e106
                  have qi106 : (0 < l1.length) = True := eq_true (by omega)
                  (try rw [show ((0 : Int)).toNat = 0 from rfl] at hx106_0)
                  (try rw [Addr.add_zero'] at hx106_0)
                  replace p106 := eq_true p106
                  replace q106 := eq_true q106
                  have p107 : 0 ≤ (1 : Int) := (by omega)
                  have q107 : 1 < (l1.length : Int) := of_decide_eq_true (by first | (with_reducible assumption) | assumption)
                  obtain ⟨ad107, e107, hx107_0⟩ := Kd.at_string HR1.out 1 p107 q107
                  obtain rfl : ad106 = ad107 := (by injection e107)
                  (try simp only [show (1 : Int).toNat = 1 from rfl, Nat.reduceMul, Nat.reduceEqDiff, Go.Addr.add, ↓reduceIte] at hx107_0)
                  have qi107 : (1 < l1.length) = True := eq_true (by omega)
                  (try rw [show ((1 : Int)).toNat = 1 from rfl] at hx107_0)
                  replace p107 := eq_true p107
                  replace q107 := eq_true q107
                  go_wp2
                  repeat (go_quiet (fail); try go_wp2)
                  go_ret3
                  exact ⟨by first | rfl | (simp; done) | (simp [*]; done), by repeat (first | exact Drawn0.refl _ | apply Drawn0.step)⟩
                · rw [if_neg c14] at H
                  exact absurd H (by simp)
              · rw [if_neg c13] at H
                exact absurd H (by simp)
            · replace c12 := Bool.eq_false_iff.mpr c12
              subst c12
              have H1 : (if 0 < (l0.length : Int) then (if (rdOf ByteArray.empty l0 0).toList = a3.toList then (if 1 < (l0.length : Int) then (if (rdOf ByteArray.empty l0 1).toList = a2.toList then (if 1 < (l1.length : Int) then (if 0 < (l1.length : Int) then (some (rdOf ByteArray.empty l1 1, rdOf ByteArray.empty l1 0, true)) else (none)) else (none)) else (some ((⟨#[]⟩ : ByteArray), (⟨#[]⟩ : ByteArray), false))) else (none)) else (some ((⟨#[]⟩ : ByteArray), (⟨#[]⟩ : ByteArray), false))) else (none)) = some (r1, r2, r3) := by rw [if_neg (show ¬ (false = true) by decide)] at H; exact H
              clear H
              have H := H1
              clear H1
              by_cases c15 : 0 < (l0.length : Int)
              · rw [if_pos c15] at H
                have c15b0 : decide (0 < (l0.length : Int)) = true := decide_eq_true c15
                have c15b1 : decide (0 < l0.length) = true := decide_eq_true (by omega)
                clear c15
                by_cases c16 : (rdOf ByteArray.empty l0 0).toList = a3.toList
                · rw [if_pos c16] at H
                  have c16b0 : ((rdOf ByteArray.empty l0 0).toList == a3.toList) = true := beq_iff_eq.mpr c16
                  have c16b1 : ((rdOf ByteArray.empty l0 0).toList != a3.toList) = false := bne_eq_false_iff_eq.mpr c16
                  clear c16
                  by_cases c17 : 1 < (l0.length : Int)
                  · rw [if_pos c17] at H
                    have c17b0 : decide (1 < (l0.length : Int)) = true := decide_eq_true c17
                    have c17b1 : decide (1 < l0.length) = true := decide_eq_true (by omega)
                    clear c17
                    by_cases c18 : (rdOf ByteArray.empty l0 1).toList = a2.toList
                    · rw [if_pos c18] at H
                      have c18b0 : ((rdOf ByteArray.empty l0 1).toList == a2.toList) = true := beq_iff_eq.mpr c18
                      have c18b1 : ((rdOf ByteArray.empty l0 1).toList != a2.toList) = false := bne_eq_false_iff_eq.mpr c18
                      clear c18
                      by_cases c19 : 1 < (l1.length : Int)
                      · rw [if_pos c19] at H
                        have c19b0 : decide (1 < (l1.length : Int)) = true := decide_eq_true c19
                        have c19b1 : decide (1 < l1.length) = true := decide_eq_true (by omega)
                        clear c19
                        by_cases c20 : 0 < (l1.length : Int)
                        · rw [if_pos c20] at H
                          have c20b0 : decide (0 < (l1.length : Int)) = true := decide_eq_true c20
                          have c20b1 : decide (0 < l1.length) = true := decide_eq_true (by omega)
                          clear c20
                          simp only [Option.some.injEq, Prod.mk.injEq] at H
                          obtain ⟨rfl, rfl, rfl⟩ := H
                          have p108 : 0 ≤ (0 : Int) := (by omega)
                          have q108 : 0 < (l0.length : Int) := of_decide_eq_true (by first | (with_reducible assumption) | assumption)
                          obtain ⟨ad108, e108, hx108_0⟩ := Kd.at_string HR0.out 0 p108 q108
                          cases e108
                          have qi108 : (0 < l0.length) = True := eq_true (by omega)
                          (try rw [show ((0 : Int)).toNat = 0 from rfl] at hx108_0)
                          (try rw [Addr.add_zero'] at hx108_0)
                          replace p108 := eq_true p108
                          replace q108 := eq_true q108
                          have p109 : 0 ≤ (1 : Int) := (by omega)
                          have q109 : 1 < (l0.length : Int) := of_decide_eq_true (by first | (with_reducible assumption) | assumption)
                          obtain ⟨ad109, e109, hx109_0⟩ := Kd.at_string HR0.out 1 p109 q109
                          obtain rfl : ad108 = ad109 := (by injection e109)
                          (try simp only [show (1 : Int).toNat = 1 from rfl, Nat.reduceMul, Nat.reduceEqDiff, Go.Addr.add, ↓reduceIte] at hx109_0)
                          have qi109 : (1 < l0.length) = True := eq_true (by omega)
                          (try rw [show ((1 : Int)).toNat = 1 from rfl] at hx109_0)
                          replace p109 := eq_true p109
                          replace q109 := eq_true q109
                          have p110 : 0 ≤ (1 : Int) := (by omega)
                          have q110 : 1 < (l1.length : Int) := of_decide_eq_true (by first | (with_reducible assumption) | assumption)
                          obtain ⟨ad110, e110, hx110_0⟩ := Kd.at_string HR1.out 1 p110 q110
                          cases e110
                          (try simp only [show (1 : Int).toNat = 1 from rfl, Nat.reduceMul, Nat.reduceEqDiff, Go.Addr.add, ↓reduceIte] at hx110_0)
                          have qi110 : (1 < l1.length) = True := eq_true (by omega)
                          (try rw [show ((1 : Int)).toNat = 1 from rfl] at hx110_0)
                          replace p110 := eq_true p110
                          replace q110 := eq_true q110
                          have p111 : 0 ≤ (0 : Int) := (by omega)
                          have q111 : 0 < (l1.length : Int) := of_decide_eq_true (by first | (with_reducible assumption) | assumption)
                          obtain ⟨ad111, e111, hx111_0⟩ := Kd.at_string HR1.out 0 p111 q111
                          obtain rfl : ad110 = ad111 := (by injection e111)
                          have qi111 : (0 < l1.length) = True := eq_true (by omega)
                          (try rw [show ((0 : Int)).toNat = 0 from rfl] at hx111_0)
                          (try rw [Addr.add_zero'] at hx111_0)
                          replace p111 := eq_true p111
                          replace q111 := eq_true q111
                          go_wp2
                          repeat (go_quiet (fail); try go_wp2)
                          go_ret3
                          exact ⟨by first | rfl | (simp; done) | (simp [*]; done), by repeat (first | exact Drawn0.refl _ | apply Drawn0.step)⟩
                        · rw [if_neg c20] at H
                          exact absurd H (by simp)
                      · rw [if_neg c19] at H
                        exact absurd H (by simp)
                    · rw [if_neg c18] at H
                      have c18b0 : ((rdOf ByteArray.empty l0 1).toList == a2.toList) = false := beq_eq_false_iff_ne.mpr c18
                      have c18b1 : ((rdOf ByteArray.empty l0 1).toList != a2.toList) = true := bne_iff_ne.mpr c18
                      simp only [Option.some.injEq, Prod.mk.injEq] at H
                      obtain ⟨rfl, rfl, rfl⟩ := H
                      have p108 : 0 ≤ (0 : Int) := (by omega)
                      have q108 : 0 < (l0.length : Int) := of_decide_eq_true (by first | (with_reducible assumption) | assumption)
                      obtain ⟨ad108, e108, hx108_0⟩ := Kd.at_string HR0.out 0 p108 q108
                      cases e108
                      have qi108 : (0 < l0.length) = True := eq_true (by omega)
                      (try rw [show ((0 : Int)).toNat = 0 from rfl] at hx108_0)
                      (try rw [Addr.add_zero'] at hx108_0)
                      replace p108 := eq_true p108
                      replace q108 := eq_true q108
                      have p109 : 0 ≤ (1 : Int) := (by omega)
                      have q109 : 1 < (l0.length : Int) := of_decide_eq_true (by first | (with_reducible assumption) | assumption)
                      obtain ⟨ad109, e109, hx109_0⟩ := Kd.at_string HR0.out 1 p109 q109
                      obtain rfl : ad108 = ad109 := (by injection e109)
                      (try simp only [show (1 : Int).toNat = 1 from rfl, Nat.reduceMul, Nat.reduceEqDiff, Go.Addr.add, ↓reduceIte] at hx109_0)
                      have qi109 : (1 < l0.length) = True := eq_true (by omega)
                      (try rw [show ((1 : Int)).toNat = 1 from rfl] at hx109_0)
                      replace p109 := eq_true p109
                      replace q109 := eq_true q109
                      go_wp2
                      repeat (go_quiet (fail); try go_wp2)
                      go_ret3
                      exact ⟨by first | rfl | (simp; done) | (simp [*]; done), by repeat (first | exact Drawn0.refl _ | apply Drawn0.step)⟩
                  · rw [if_neg c17] at H
                    exact absurd H (by simp)
                · rw [if_neg c16] at H
                  have c16b0 : ((rdOf ByteArray.empty l0 0).toList == a3.toList) = false := beq_eq_false_iff_ne.mpr c16
                  have c16b1 : ((rdOf ByteArray.empty l0 0).toList != a3.toList) = true := bne_iff_ne.mpr c16
                  simp only [Option.some.injEq, Prod.mk.injEq] at H
                  obtain ⟨rfl, rfl, rfl⟩ := H
                  have p108 : 0 ≤ (0 : Int) := (by omega)
                  have q108 : 0 < (l0.length : Int) := of_decide_eq_true (by first | (with_reducible assumption) | assumption)
                  obtain ⟨ad108, e108, hx108_0⟩ := Kd.at_string HR0.out 0 p108 q108
                  cases e108
                  have qi108 : (0 < l0.length) = True := eq_true (by omega)
                  (try rw [show ((0 : Int)).toNat = 0 from rfl] at hx108_0)
                  (try rw [Addr.add_zero'] at hx108_0)
                  replace p108 := eq_true p108
                  replace q108 := eq_true q108
                  go_wp2
                  repeat (go_quiet (fail); try go_wp2)
                  go_ret3
                  exact ⟨by first | rfl | (simp; done) | (simp [*]; done), by repeat (first | exact Drawn0.refl _ | apply Drawn0.step)⟩
              · rw [if_neg c15] at H
                exact absurd H (by simp)

end Go.Proofs.YtfpnhlfmnoikhabDoor.PFnExtPointers
