/- As print.sh printed it (DocRebuilt), these functions alone: laws_docModest, spec_DocNumber. -/
import Derived.Test.YtohfgfbfohkkkaaGreatDoorPFnDocRebuiltx0
namespace Go.Proofs.YtohfgfbfohkkkaaGreatDoor.PFnDocRebuilt
open Go.RowKit Go.Proofs.YtohfgfbfohkkkaaGreatDoorW.PrintWords Go.Proofs.YtohfgfbfohkkkaaGreatDoorW.PrintLast Go.Proofs.YtohfgfbfohkkkaaGreatDoorW.PrintMore
attribute [local go_sem] max2_int min2_int max_two min_two max_three min_three max_four min_four   -- for this text's walks alone
set_option linter.unusedVariables false
set_option linter.unusedSimpArgs false


/-! ### laws_docModest: function 5 -/
def laws_docModest.f (l0 : List Int) : Option (Bool) := some (decide ((l0.length : Int) ≤ 5000))
set_option maxHeartbeats 8000000 in
set_option maxRecDepth 100000 in
theorem laws_docModest.calls (A0 : Option Addr) (c0 : Nat) (l0 : List Int) (r : Bool) (w : World) (hr0 : Kd.C (Kd.int .u8) w A0 l0.length l0) (hc0 : l0.length ≤ c0) (h : laws_docModest.f l0 = some r) :
    Calls Tryz.prog 5 #[.slice A0 l0.length c0] w fun e w' => e = .returned (.bool r) ∧ Drawn0 w w' := by
  have HR0 := Aside0.mk hr0
  have HC0 := Aside0.mk hc0
  clear hr0 hc0
  have H : (some (decide ((l0.length : Int) ≤ 5000))) = some r := h
  clear h
  obtain rfl := Option.some.inj H
  go_enter Tryz.func5, Tryz.ntmps5
  go_wp2
  go_ret
  exact ⟨by first | rfl | (simp; done) | (simp [*]; done), by repeat (first | exact Drawn0.refl _ | apply Drawn0.step)⟩

-- NOT PRINTED: function 101 (reflectlite_TypeOf)

-- NOT PRINTED: function 102 (errors_is)

-- NOT PRINTED: function 42 (errors_Is)

-- NOT PRINTED: function 19 (impl_code)


/-! ### spec_DocNumber: function 10 -/
def spec_DocNumber.f (l0 : List Int) : Option (Int × Bool) := if (l0.length : Int) < 4 then (some (0, false)) else (if 0 < (l0.length : Int) then (if 1 < (l0.length : Int) then (if 2 < (l0.length : Int) then (if 3 < (l0.length : Int) then (some (wrap64 (wrap32 (Go.bits .or .u32 (Go.bits .or .u32 (Go.bits .or .u32 ((rd l0 0) % 4294967296) ((((rd l0 1) % 4294967296) * 256) % 4294967296)) ((((rd l0 2) % 4294967296) * 65536) % 4294967296)) ((((rd l0 3) % 4294967296) * 16777216) % 4294967296))), true)) else (none)) else (none)) else (none)) else (none))
set_option maxHeartbeats 8000000 in
set_option maxRecDepth 100000 in
theorem spec_DocNumber.calls (A0 : Option Addr) (c0 : Nat) (l0 : List Int) (r1 : Int) (r2 : Bool) (w : World) (hr0 : Kd.C (Kd.int .u8) w A0 l0.length l0) (hc0 : l0.length ≤ c0) (h : spec_DocNumber.f l0 = some (r1, r2)) :
    Calls Tryz.prog 10 #[.slice A0 l0.length c0] w fun e w' => e = .returned (.tuple #[.int .i64 r1, .bool r2]) ∧ Drawn0 w w' := by
  have HR0 := Aside0.mk hr0
  have HC0 := Aside0.mk hc0
  clear hr0 hc0
  have H : (if (l0.length : Int) < 4 then (some (0, false)) else (if 0 < (l0.length : Int) then (if 1 < (l0.length : Int) then (if 2 < (l0.length : Int) then (if 3 < (l0.length : Int) then (some (wrap64 (wrap32 (Go.bits .or .u32 (Go.bits .or .u32 (Go.bits .or .u32 ((rd l0 0) % 4294967296) ((((rd l0 1) % 4294967296) * 256) % 4294967296)) ((((rd l0 2) % 4294967296) * 65536) % 4294967296)) ((((rd l0 3) % 4294967296) * 16777216) % 4294967296))), true)) else (none)) else (none)) else (none)) else (none))) = some (r1, r2) := h
  clear h
  by_cases c2 : (l0.length : Int) < 4
  · rw [if_pos c2] at H
    have c2b0 : decide ((l0.length : Int) < 4) = true := decide_eq_true c2
    have c2b1 : decide (l0.length < 4) = true := decide_eq_true (by omega)
    clear c2
    simp only [Option.some.injEq, Prod.mk.injEq] at H
    obtain ⟨rfl, rfl⟩ := H
    go_enter Tryz.func10, Tryz.ntmps10
    go_wp2
    repeat (go_quiet (fail); try go_wp2)
    go_ret2
    exact ⟨by first | rfl | (simp; done) | (simp [*]; done), by repeat (first | exact Drawn0.refl _ | apply Drawn0.step)⟩
  · rw [if_neg c2] at H
    have c2b0 : decide ((l0.length : Int) < 4) = false := decide_eq_false c2
    have c2b1 : decide (l0.length < 4) = false := decide_eq_false (by omega)
    clear c2
    by_cases c3 : 0 < (l0.length : Int)
    · rw [if_pos c3] at H
      have c3b0 : decide (0 < (l0.length : Int)) = true := decide_eq_true c3
      have c3b1 : decide (0 < l0.length) = true := decide_eq_true (by omega)
      clear c3
      by_cases c4 : 1 < (l0.length : Int)
      · rw [if_pos c4] at H
        have c4b0 : decide (1 < (l0.length : Int)) = true := decide_eq_true c4
        have c4b1 : decide (1 < l0.length) = true := decide_eq_true (by omega)
        clear c4
        by_cases c5 : 2 < (l0.length : Int)
        · rw [if_pos c5] at H
          have c5b0 : decide (2 < (l0.length : Int)) = true := decide_eq_true c5
          have c5b1 : decide (2 < l0.length) = true := decide_eq_true (by omega)
          clear c5
          by_cases c6 : 3 < (l0.length : Int)
          · rw [if_pos c6] at H
            have c6b0 : decide (3 < (l0.length : Int)) = true := decide_eq_true c6
            have c6b1 : decide (3 < l0.length) = true := decide_eq_true (by omega)
            clear c6
            simp only [Option.some.injEq, Prod.mk.injEq] at H
            obtain ⟨rfl, rfl⟩ := H
            have p379 : 0 ≤ (0 : Int) := (by omega)
            have q379 : 0 < (l0.length : Int) := of_decide_eq_true (by first | (with_reducible assumption) | assumption)
            obtain ⟨ad379, e379, hx379_0⟩ := Kd.at_int HR0.out 0 p379 q379
            cases e379
            have qi379 : (0 < l0.length) = True := eq_true (by omega)
            (try rw [show ((0 : Int)).toNat = 0 from rfl] at hx379_0)
            (try rw [Addr.add_zero'] at hx379_0)
            replace p379 := eq_true p379
            replace q379 := eq_true q379
            have p380 : 0 ≤ (1 : Int) := (by omega)
            have q380 : 1 < (l0.length : Int) := of_decide_eq_true (by first | (with_reducible assumption) | assumption)
            obtain ⟨ad380, e380, hx380_0⟩ := Kd.at_int HR0.out 1 p380 q380
            obtain rfl : ad379 = ad380 := (by injection e380)
            (try simp only [show (1 : Int).toNat = 1 from rfl, Nat.reduceMul, Nat.reduceEqDiff, Go.Addr.add, ↓reduceIte] at hx380_0)
            have qi380 : (1 < l0.length) = True := eq_true (by omega)
            (try rw [show ((1 : Int)).toNat = 1 from rfl] at hx380_0)
            replace p380 := eq_true p380
            replace q380 := eq_true q380
            have p381 : 0 ≤ (2 : Int) := (by omega)
            have q381 : 2 < (l0.length : Int) := of_decide_eq_true (by first | (with_reducible assumption) | assumption)
            obtain ⟨ad381, e381, hx381_0⟩ := Kd.at_int HR0.out 2 p381 q381
            obtain rfl : ad379 = ad381 := (by injection e381)
            (try simp only [show (2 : Int).toNat = 2 from rfl, Nat.reduceMul, Nat.reduceEqDiff, Go.Addr.add, ↓reduceIte] at hx381_0)
            have qi381 : (2 < l0.length) = True := eq_true (by omega)
            (try rw [show ((2 : Int)).toNat = 2 from rfl] at hx381_0)
            replace p381 := eq_true p381
            replace q381 := eq_true q381
            have p382 : 0 ≤ (3 : Int) := (by omega)
            have q382 : 3 < (l0.length : Int) := of_decide_eq_true (by first | (with_reducible assumption) | assumption)
            obtain ⟨ad382, e382, hx382_0⟩ := Kd.at_int HR0.out 3 p382 q382
            obtain rfl : ad379 = ad382 := (by injection e382)
            (try simp only [show (3 : Int).toNat = 3 from rfl, Nat.reduceMul, Nat.reduceEqDiff, Go.Addr.add, ↓reduceIte] at hx382_0)
            have qi382 : (3 < l0.length) = True := eq_true (by omega)
            (try rw [show ((3 : Int)).toNat = 3 from rfl] at hx382_0)
            replace p382 := eq_true p382
            replace q382 := eq_true q382
            go_enter Tryz.func10, Tryz.ntmps10
            go_wp2
            repeat (go_quiet (fail); try go_wp2)
            go_ret2
            exact ⟨by first | rfl | (simp; done) | (simp [*]; done), by repeat (first | exact Drawn0.refl _ | apply Drawn0.step)⟩
          · rw [if_neg c6] at H
            exact absurd H (by simp)
        · rw [if_neg c5] at H
          exact absurd H (by simp)
      · rw [if_neg c4] at H
        exact absurd H (by simp)
    · rw [if_neg c3] at H
      exact absurd H (by simp)

-- NOT PRINTED: function 11 (impl_ElementKey)

-- NOT PRINTED: function 12 (impl_ElementValue)

-- NOT PRINTED: function 29 (bsoncore_BuildDocument)

-- NOT PRINTED: function 13 (impl_BuildDocument)

-- NOT PRINTED: function 75 (bsoncore_AppendValueElement)

-- NOT PRINTED: function 31 (bsoncore_DocumentBuilder_AppendValue)



end Go.Proofs.YtohfgfbfohkkkaaGreatDoor.PFnDocRebuilt
