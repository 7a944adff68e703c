/- Put together, without what nothing reaches: PFnDocAnyLookupx0, PSpec, PLong. -/
import Derived.Test.YtbpopaegfhcdpaaGreatDoorProg
import Derived.Below
import Derived.Deep.Draws
import Derived.Deep.AppendLies
import Derived.Maps.AppendAt
import Derived.OwnWalk
import Derived.Laws.BytesArg
import Derived.Laws.MakeOwn
import Derived.Laws.OwnMore
import Derived.Deep.OwnRows
import Derived.Tactics
import Derived.Lib.ConvBytes
import Derived.Laws.Slices
import Derived.WalkKit
import Derived.KernelRfl
import Derived.RowKit3
import Derived.Deep.LoopGhost
import Derived.Deep.QuietTactic
import Derived.BigQuiet
import Derived.WideLaws
import Derived.Deep.DeepCutAuto
import Derived.Deep.CutBlock
import Derived.Deep.RegionHeld3
import Derived.Laws.Rows
import Derived.Lib.AppendStr
import Derived.ArgAppend
import Derived.Laws.IdiomCopy
import Derived.OrdersHeld
import Derived.Laws.BitsLemmas
import Derived.RowKit
import Derived.Test.YtbpopaegfhcdpaaGreatDoorWa
import Derived.Test.YtbpopaegfhcdpaaGreatDoorWb
namespace Go.Proofs.YtbpopaegfhcdpaaGreatDoor.PFnDocAnyLookup
open Go.RowKit Go.Proofs.YtbpopaegfhcdpaaGreatDoorW.PrintWords Go.Proofs.YtbpopaegfhcdpaaGreatDoorW.PrintLast Go.Proofs.YtbpopaegfhcdpaaGreatDoorW.PrintMore
attribute [local go_sem] max2_int min2_int max_two min_two max_three min_three max_four min_four   -- for this text's walks alone
set_option linter.unusedVariables false
set_option linter.unusedSimpArgs false



theorem info5 : (Tryz.prog.info? 5).map (fun i => (i.zero, i.size, i.bytes)) = some (some (.int .u8 0), 1, 1) := by kernel_rfl
-- the values' own types
end Go.Proofs.YtbpopaegfhcdpaaGreatDoor.PFnDocAnyLookup


/- As print.sh printed it (DocAnyLookup), these functions alone: laws_docModest, laws_zzFits2, spec_DocNumber, spec_DocName, spec_DocLen, spec_DocSpan. -/
namespace Go.Proofs.YtbpopaegfhcdpaaGreatDoor.PFnDocAnyLookup
open Go.RowKit Go.Proofs.YtbpopaegfhcdpaaGreatDoorW.PrintWords Go.Proofs.YtbpopaegfhcdpaaGreatDoorW.PrintLast Go.Proofs.YtbpopaegfhcdpaaGreatDoorW.PrintMore
attribute [local go_sem] max2_int min2_int max_two min_two max_three min_three max_four min_four   -- for this text's walks alone
set_option linter.unusedVariables false
set_option linter.unusedSimpArgs false


/-! ### laws_docModest: function 14 -/
def laws_docModest.f (l0 : List Int) : Option (Bool) := some (decide ((l0.length : Int) ≤ 5000))
set_option maxHeartbeats 8000000 in
set_option maxRecDepth 100000 in
theorem laws_docModest.calls (A0 : Option Addr) (c0 : Nat) (l0 : List Int) (r : Bool) (w : World) (hr0 : Kd.C (Kd.int .u8) w A0 l0.length l0) (hc0 : l0.length ≤ c0) (h : laws_docModest.f l0 = some r) :
    Calls Tryz.prog 14 #[.slice A0 l0.length c0] w fun e w' => e = .returned (.bool r) ∧ Drawn0 w w' := by
  have HR0 := Aside0.mk hr0
  have HC0 := Aside0.mk hc0
  clear hr0 hc0
  have H : (some (decide ((l0.length : Int) ≤ 5000))) = some r := h
  clear h
  obtain rfl := Option.some.inj H
  go_enter Tryz.func14, Tryz.ntmps14
  go_wp2
  go_ret
  exact ⟨by first | rfl | (simp; done) | (simp [*]; done), by repeat (first | exact Drawn0.refl _ | apply Drawn0.step)⟩

-- NOT PRINTED: function 40 (impl_own)

-- NOT PRINTED: function 79 (math_Float64frombits)

-- NOT PRINTED: function 166 (binary_littleEndian_Uint64)

-- NOT PRINTED: function 111 (binaryutil_ReadU64)

-- NOT PRINTED: function 45 (bsoncore_ReadDouble)

-- NOT PRINTED: function 46 (math_Float64bits)


/-! ### laws_zzFits2: function 20 -/
def laws_zzFits2.l0 : Nat → List ByteArray → Int → Int → Option (Bool)
  | 0, _, _, _ => none
  | k + 1, x8, x9, x10 => if x10 < x9 then (if 0 ≤ x10 then (if x10 < (x8.length : Int) then (if ((rdOf ByteArray.empty x8 x10).size : Int) > 2147483647 then (some false) else (laws_zzFits2.l0 k x8 x9 (wrap64 (x10 + 1)))) else (none)) else (none)) else (some true)
def laws_zzFits2.f (k : Nat) (l0 : List ByteArray) : Option (Bool) := if (l0.length : Int) > 2147483647 then (some false) else (laws_zzFits2.l0 k l0 (l0.length : Int) 0)
theorem laws_zzFits2.mono_l : ∀ k, (∀ y0 y1 y2, LeO (laws_zzFits2.l0 k y0 y1 y2) (laws_zzFits2.l0 (k + 1) y0 y1 y2))
  | 0 => fun _ _ _ r h => by simp [laws_zzFits2.l0] at h
  | k + 1 => by
    have ih0 := laws_zzFits2.mono_l k
    · intro y0 y1 y2
      unfold laws_zzFits2.l0
      repeat' first
      | (with_reducible exact ih0 _ _ _)
      | (with_reducible exact LeO.refl _)
      | (with_reducible exact LeO.none _)
      | (with_reducible refine LeO.ite ?_ ?_)
      | (with_reducible refine LeO.bind ?_ (fun _ => ?_))
      | exact ih0 _ _ _
      | exact LeO.none _
      | refine LeO.ite ?_ ?_
      | refine LeO.bind ?_ (fun _ => ?_)
theorem laws_zzFits2.mono : ∀ a0 k, LeO (laws_zzFits2.f k a0) (laws_zzFits2.f (k + 1) a0) := by
  intro a0 k
  have ih0 := laws_zzFits2.mono_l k
  unfold laws_zzFits2.f
  repeat' first
      | (with_reducible exact ih0 _ _ _)
      | (with_reducible exact LeO.refl _)
      | (with_reducible exact LeO.none _)
      | (with_reducible refine LeO.ite ?_ ?_)
      | (with_reducible refine LeO.bind ?_ (fun _ => ?_))
      | exact ih0 _ _ _
      | exact LeO.none _
      | refine LeO.ite ?_ ?_
      | refine LeO.bind ?_ (fun _ => ?_)
set_option maxHeartbeats 8000000 in
set_option maxRecDepth 100000 in
theorem laws_zzFits2.calls (k : Nat) (A0 : Option Addr) (c0 : Nat) (l0 : List ByteArray) (r : Bool) (w : World) (hr0 : Kd.C Kd.string w A0 l0.length l0) (hc0 : l0.length ≤ c0) (h : laws_zzFits2.f k l0 = some r) :
    Calls Tryz.prog 20 #[.slice A0 l0.length c0] w fun e w' => e = .returned (.bool r) ∧ Drawn0 w w' := by
  have HR0 := Aside0.mk hr0
  have HC0 := Aside0.mk hc0
  clear hr0 hc0
  have H : (if (l0.length : Int) > 2147483647 then (some false) else (laws_zzFits2.l0 k l0 (l0.length : Int) 0)) = some r := h
  clear h
  by_cases c2 : (l0.length : Int) > 2147483647
  · rw [if_pos c2] at H
    have c2b0 : decide (2147483647 < (l0.length : Int)) = true := decide_eq_true c2
    have c2b1 : decide (2147483647 < l0.length) = true := decide_eq_true (by omega)
    clear c2
    obtain rfl := Option.some.inj H
    go_enter Tryz.func20, Tryz.ntmps20
    go_wp2
    go_ret
    exact ⟨by first | rfl | (simp; done) | (simp [*]; done), by repeat (first | exact Drawn0.refl _ | apply Drawn0.step)⟩
  · rw [if_neg c2] at H
    have c2b0 : decide (2147483647 < (l0.length : Int)) = false := decide_eq_false c2
    have c2b1 : decide (2147483647 < l0.length) = false := decide_eq_false (by omega)
    clear c2
    have H' := Aside0.mk H
    clear H
    go_enter Tryz.func20, Tryz.ntmps20
    go_wp2
    go_loopg [10] k (fun kq v10 w' => ∃ (x10_1 : Int), v10 = .int .i64 x10_1 ∧ Aside0 (laws_zzFits2.l0 kq l0 (l0.length : Int) x10_1 = some r) ∧ Aside0 (kq ≤ k) ∧ Drawn0 w w')
    case atStart => exact ⟨(0), (by first | rfl | (simp; done) | (simp [*]; done)), H', ⟨Nat.le_refl _⟩, by repeat (first | exact Drawn0.refl _ | apply Drawn0.step)⟩
    case round =>
      clear H'
      try clear c2
      try clear c2b0
      try clear c2b1
      try clear p2
      obtain ⟨x10_1, rfl, HA, HK1, ⟨m1, rfl⟩⟩ := hrel
      cases gk with
      | zero => exact absurd HA.out (by simp [laws_zzFits2.l0])
      | succ k1 =>
        have H := HA.out
        clear HA
        simp only [laws_zzFits2.l0] at H
        by_cases c3 : x10_1 < (l0.length : Int)
        · rw [if_pos c3] at H
          have c3b0 : decide (x10_1 < (l0.length : Int)) = true := decide_eq_true c3
          clear c3
          by_cases c4 : 0 ≤ x10_1
          · rw [if_pos c4] at H
            have c4b0 : decide (0 ≤ x10_1) = true := decide_eq_true c4
            clear c4
            by_cases c5 : x10_1 < (l0.length : Int)
            · rw [if_pos c5] at H
              have c5b0 : decide (x10_1 < (l0.length : Int)) = true := decide_eq_true c5
              clear c5
              by_cases c6 : ((rdOf ByteArray.empty l0 x10_1).size : Int) > 2147483647
              · rw [if_pos c6] at H
                have c6b0 : decide (2147483647 < ((rdOf ByteArray.empty l0 x10_1).size : Int)) = true := decide_eq_true c6
                have c6b1 : decide (2147483647 < (rdOf ByteArray.empty l0 x10_1).size) = true := decide_eq_true (by omega)
                clear c6
                obtain rfl := Option.some.inj H
                have p374 : 0 ≤ (x10_1 : Int) := of_decide_eq_true (by first | (with_reducible assumption) | assumption)
                have q374 : x10_1 < (l0.length : Int) := of_decide_eq_true (by first | (with_reducible assumption) | assumption)
                obtain ⟨ad374, e374, hx374_0⟩ := Kd.at_string HR0.out x10_1 p374 q374
                cases e374
                replace p374 := eq_true p374
                replace q374 := eq_true q374
                go_wp2
                go_ret
                exact ⟨by first | rfl | (simp; done) | (simp [*]; done), by repeat (first | exact Drawn0.refl _ | apply Drawn0.step)⟩
              · rw [if_neg c6] at H
                have c6b0 : decide (2147483647 < ((rdOf ByteArray.empty l0 x10_1).size : Int)) = false := decide_eq_false c6
                have c6b1 : decide (2147483647 < (rdOf ByteArray.empty l0 x10_1).size) = false := decide_eq_false (by omega)
                clear c6
                have H' := Aside0.mk H
                clear H
                have p374 : 0 ≤ (x10_1 : Int) := of_decide_eq_true (by first | (with_reducible assumption) | assumption)
                have q374 : x10_1 < (l0.length : Int) := of_decide_eq_true (by first | (with_reducible assumption) | assumption)
                obtain ⟨ad374, e374, hx374_0⟩ := Kd.at_string HR0.out x10_1 p374 q374
                cases e374
                replace p374 := eq_true p374
                replace q374 := eq_true q374
                go_wp2
                go_roundg k1
                case measure => have := HK1.out; omega
                case rel => exact ⟨(wrap64 (x10_1 + 1)), (by first | rfl | (simp; done) | (simp [*]; done)), H', ⟨by have := HK1.out; omega⟩, by repeat (first | exact Drawn0.refl _ | apply Drawn0.step)⟩
            · rw [if_neg c5] at H
              exact absurd H (by simp)
          · rw [if_neg c4] at H
            exact absurd H (by simp)
        · rw [if_neg c3] at H
          have c3b0 : decide (x10_1 < (l0.length : Int)) = false := decide_eq_false c3
          clear c3
          obtain rfl := Option.some.inj H
          go_wp2
          go_ret
          exact ⟨by first | rfl | (simp; done) | (simp [*]; done), by repeat (first | exact Drawn0.refl _ | apply Drawn0.step)⟩


/-! ### spec_DocNumber: function 43 -/
def spec_DocNumber.f (l0 : List Int) : Option (Int × Bool) := if (l0.length : Int) < 4 then (some (0, false)) else (if 0 < (l0.length : Int) then (if 1 < (l0.length : Int) then (if 2 < (l0.length : Int) then (if 3 < (l0.length : Int) then (some (wrap64 (wrap32 (Go.bits .or .u32 (Go.bits .or .u32 (Go.bits .or .u32 ((rd l0 0) % 4294967296) ((((rd l0 1) % 4294967296) * 256) % 4294967296)) ((((rd l0 2) % 4294967296) * 65536) % 4294967296)) ((((rd l0 3) % 4294967296) * 16777216) % 4294967296))), true)) else (none)) else (none)) else (none)) else (none))
set_option maxHeartbeats 8000000 in
set_option maxRecDepth 100000 in
theorem spec_DocNumber.calls (A0 : Option Addr) (c0 : Nat) (l0 : List Int) (r1 : Int) (r2 : Bool) (w : World) (hr0 : Kd.C (Kd.int .u8) w A0 l0.length l0) (hc0 : l0.length ≤ c0) (h : spec_DocNumber.f l0 = some (r1, r2)) :
    Calls Tryz.prog 43 #[.slice A0 l0.length c0] w fun e w' => e = .returned (.tuple #[.int .i64 r1, .bool r2]) ∧ Drawn0 w w' := by
  have HR0 := Aside0.mk hr0
  have HC0 := Aside0.mk hc0
  clear hr0 hc0
  have H : (if (l0.length : Int) < 4 then (some (0, false)) else (if 0 < (l0.length : Int) then (if 1 < (l0.length : Int) then (if 2 < (l0.length : Int) then (if 3 < (l0.length : Int) then (some (wrap64 (wrap32 (Go.bits .or .u32 (Go.bits .or .u32 (Go.bits .or .u32 ((rd l0 0) % 4294967296) ((((rd l0 1) % 4294967296) * 256) % 4294967296)) ((((rd l0 2) % 4294967296) * 65536) % 4294967296)) ((((rd l0 3) % 4294967296) * 16777216) % 4294967296))), true)) else (none)) else (none)) else (none)) else (none))) = some (r1, r2) := h
  clear h
  by_cases c2 : (l0.length : Int) < 4
  · rw [if_pos c2] at H
    have c2b0 : decide ((l0.length : Int) < 4) = true := decide_eq_true c2
    have c2b1 : decide (l0.length < 4) = true := decide_eq_true (by omega)
    clear c2
    simp only [Option.some.injEq, Prod.mk.injEq] at H
    obtain ⟨rfl, rfl⟩ := H
    go_enter Tryz.func43, Tryz.ntmps43
    go_wp2
    repeat (go_quiet (fail); try go_wp2)
    go_ret2
    exact ⟨by first | rfl | (simp; done) | (simp [*]; done), by repeat (first | exact Drawn0.refl _ | apply Drawn0.step)⟩
  · rw [if_neg c2] at H
    have c2b0 : decide ((l0.length : Int) < 4) = false := decide_eq_false c2
    have c2b1 : decide (l0.length < 4) = false := decide_eq_false (by omega)
    clear c2
    by_cases c3 : 0 < (l0.length : Int)
    · rw [if_pos c3] at H
      have c3b0 : decide (0 < (l0.length : Int)) = true := decide_eq_true c3
      have c3b1 : decide (0 < l0.length) = true := decide_eq_true (by omega)
      clear c3
      by_cases c4 : 1 < (l0.length : Int)
      · rw [if_pos c4] at H
        have c4b0 : decide (1 < (l0.length : Int)) = true := decide_eq_true c4
        have c4b1 : decide (1 < l0.length) = true := decide_eq_true (by omega)
        clear c4
        by_cases c5 : 2 < (l0.length : Int)
        · rw [if_pos c5] at H
          have c5b0 : decide (2 < (l0.length : Int)) = true := decide_eq_true c5
          have c5b1 : decide (2 < l0.length) = true := decide_eq_true (by omega)
          clear c5
          by_cases c6 : 3 < (l0.length : Int)
          · rw [if_pos c6] at H
            have c6b0 : decide (3 < (l0.length : Int)) = true := decide_eq_true c6
            have c6b1 : decide (3 < l0.length) = true := decide_eq_true (by omega)
            clear c6
            simp only [Option.some.injEq, Prod.mk.injEq] at H
            obtain ⟨rfl, rfl⟩ := H
            have p375 : 0 ≤ (0 : Int) := (by omega)
            have q375 : 0 < (l0.length : Int) := of_decide_eq_true (by first | (with_reducible assumption) | assumption)
            obtain ⟨ad375, e375, hx375_0⟩ := Kd.at_int HR0.out 0 p375 q375
            cases e375
            have qi375 : (0 < l0.length) = True := eq_true (by omega)
            (try rw [show ((0 : Int)).toNat = 0 from rfl] at hx375_0)
            (try rw [Addr.add_zero'] at hx375_0)
            replace p375 := eq_true p375
            replace q375 := eq_true q375
            have p376 : 0 ≤ (1 : Int) := (by omega)
            have q376 : 1 < (l0.length : Int) := of_decide_eq_true (by first | (with_reducible assumption) | assumption)
            obtain ⟨ad376, e376, hx376_0⟩ := Kd.at_int HR0.out 1 p376 q376
            obtain rfl : ad375 = ad376 := (by injection e376)
            (try simp only [show (1 : Int).toNat = 1 from rfl, Nat.reduceMul, Nat.reduceEqDiff, Go.Addr.add, ↓reduceIte] at hx376_0)
            have qi376 : (1 < l0.length) = True := eq_true (by omega)
            (try rw [show ((1 : Int)).toNat = 1 from rfl] at hx376_0)
            replace p376 := eq_true p376
            replace q376 := eq_true q376
            have p377 : 0 ≤ (2 : Int) := (by omega)
            have q377 : 2 < (l0.length : Int) := of_decide_eq_true (by first | (with_reducible assumption) | assumption)
            obtain ⟨ad377, e377, hx377_0⟩ := Kd.at_int HR0.out 2 p377 q377
            obtain rfl : ad375 = ad377 := (by injection e377)
            (try simp only [show (2 : Int).toNat = 2 from rfl, Nat.reduceMul, Nat.reduceEqDiff, Go.Addr.add, ↓reduceIte] at hx377_0)
            have qi377 : (2 < l0.length) = True := eq_true (by omega)
            (try rw [show ((2 : Int)).toNat = 2 from rfl] at hx377_0)
            replace p377 := eq_true p377
            replace q377 := eq_true q377
            have p378 : 0 ≤ (3 : Int) := (by omega)
            have q378 : 3 < (l0.length : Int) := of_decide_eq_true (by first | (with_reducible assumption) | assumption)
            obtain ⟨ad378, e378, hx378_0⟩ := Kd.at_int HR0.out 3 p378 q378
            obtain rfl : ad375 = ad378 := (by injection e378)
            (try simp only [show (3 : Int).toNat = 3 from rfl, Nat.reduceMul, Nat.reduceEqDiff, Go.Addr.add, ↓reduceIte] at hx378_0)
            have qi378 : (3 < l0.length) = True := eq_true (by omega)
            (try rw [show ((3 : Int)).toNat = 3 from rfl] at hx378_0)
            replace p378 := eq_true p378
            replace q378 := eq_true q378
            go_enter Tryz.func43, Tryz.ntmps43
            go_wp2
            repeat (go_quiet (fail); try go_wp2)
            go_ret2
            exact ⟨by first | rfl | (simp; done) | (simp [*]; done), by repeat (first | exact Drawn0.refl _ | apply Drawn0.step)⟩
          · rw [if_neg c6] at H
            exact absurd H (by simp)
        · rw [if_neg c5] at H
          exact absurd H (by simp)
      · rw [if_neg c4] at H
        exact absurd H (by simp)
    · rw [if_neg c3] at H
      exact absurd H (by simp)


/-! ### spec_DocName: function 109 -/
def spec_DocName.l0 : Nat → List Int → Int → Option (ByteArray × Int × Bool)
  | 0, _, _ => none
  | k + 1, x0, x5 => if x5 < (x0.length : Int) then (if 0 ≤ x5 then (if (rd x0 x5) = 0 then (if x5 ≤ (x0.length : Int) then (some (strOfNums (x0.take (x5 : Int).toNat), wrap64 (x5 + 1), true)) else (none)) else (spec_DocName.l0 k x0 (wrap64 (x5 + 1)))) else (none)) else (some ((⟨#[]⟩ : ByteArray), 0, false))
def spec_DocName.f (k : Nat) (l0 : List Int) : Option (ByteArray × Int × Bool) := spec_DocName.l0 k l0 0
theorem spec_DocName.mono_l : ∀ k, (∀ y0 y1, LeO (spec_DocName.l0 k y0 y1) (spec_DocName.l0 (k + 1) y0 y1))
  | 0 => fun _ _ r h => by simp [spec_DocName.l0] at h
  | k + 1 => by
    have ih0 := spec_DocName.mono_l k
    · intro y0 y1
      unfold spec_DocName.l0
      repeat' first
      | (with_reducible exact ih0 _ _)
      | (with_reducible exact LeO.refl _)
      | (with_reducible exact LeO.none _)
      | (with_reducible refine LeO.ite ?_ ?_)
      | (with_reducible refine LeO.bind ?_ (fun _ => ?_))
      | exact ih0 _ _
      | exact LeO.none _
      | refine LeO.ite ?_ ?_
      | refine LeO.bind ?_ (fun _ => ?_)
theorem spec_DocName.mono : ∀ a0 k, LeO (spec_DocName.f k a0) (spec_DocName.f (k + 1) a0) := by
  intro a0 k
  have ih0 := spec_DocName.mono_l k
  unfold spec_DocName.f
  repeat' first
      | (with_reducible exact ih0 _ _)
      | (with_reducible exact LeO.refl _)
      | (with_reducible exact LeO.none _)
      | (with_reducible refine LeO.ite ?_ ?_)
      | (with_reducible refine LeO.bind ?_ (fun _ => ?_))
      | exact ih0 _ _
      | exact LeO.none _
      | refine LeO.ite ?_ ?_
      | refine LeO.bind ?_ (fun _ => ?_)
set_option maxHeartbeats 8000000 in
set_option maxRecDepth 100000 in
theorem spec_DocName.calls (k : Nat) (A0 : Option Addr) (c0 : Nat) (l0 : List Int) (r1 : ByteArray) (r2 : Int) (r3 : Bool) (w : World) (hr0 : Kd.C (Kd.int .u8) w A0 l0.length l0) (hc0 : l0.length ≤ c0) (h : spec_DocName.f k l0 = some (r1, r2, r3)) :
    Calls Tryz.prog 109 #[.slice A0 l0.length c0] w fun e w' => e = .returned (.tuple #[.string r1, .int .i64 r2, .bool r3]) ∧ Drawn0 w w' := by
  have HR0 := Aside0.mk hr0
  have HC0 := Aside0.mk hc0
  clear hr0 hc0
  have H : (spec_DocName.l0 k l0 0) = some (r1, r2, r3) := h
  clear h
  have H' := Aside0.mk H
  clear H
  go_enter Tryz.func109, Tryz.ntmps109
  go_wp2
  go_loopg [5] k (fun kq v5 w' => ∃ (x5_1 : Int), v5 = .int .i64 x5_1 ∧ Aside0 (spec_DocName.l0 kq l0 x5_1 = some (r1, r2, r3)) ∧ Aside0 (kq ≤ k) ∧ Drawn0 w w')
  case atStart => exact ⟨(0), (by first | rfl | (simp; done) | (simp [*]; done)), H', ⟨Nat.le_refl _⟩, by repeat (first | exact Drawn0.refl _ | apply Drawn0.step)⟩
  case round =>
    clear H'
    try clear c1
    obtain ⟨x5_1, rfl, HA, HK1, ⟨m1, rfl⟩⟩ := hrel
    cases gk with
    | zero => exact absurd HA.out (by simp [spec_DocName.l0])
    | succ k1 =>
      have H := HA.out
      clear HA
      simp only [spec_DocName.l0] at H
      by_cases c2 : x5_1 < (l0.length : Int)
      · rw [if_pos c2] at H
        have c2b0 : decide (x5_1 < (l0.length : Int)) = true := decide_eq_true c2
        clear c2
        by_cases c3 : 0 ≤ x5_1
        · rw [if_pos c3] at H
          have c3b0 : decide (0 ≤ x5_1) = true := decide_eq_true c3
          clear c3
          by_cases c4 : (rd l0 x5_1) = 0
          · rw [if_pos c4] at H
            have c4b0 : ((rd l0 x5_1) == 0) = true := beq_iff_eq.mpr c4
            have c4b1 : ((rd l0 x5_1) != 0) = false := bne_eq_false_iff_eq.mpr c4
            clear c4
            have c5b0 := eq_true (of_decide_eq_true (by first | (with_reducible assumption) | assumption) : 0 ≤ x5_1)
            by_cases c6 : x5_1 ≤ (l0.length : Int)
            · rw [if_pos c6] at H
              have c6b0 := eq_true c6
              have c6b1 : decide (x5_1 ≤ (l0.length : Int)) = true := decide_eq_true c6
              clear c6
              simp only [Option.some.injEq, Prod.mk.injEq] at H
              obtain ⟨rfl, rfl, rfl⟩ := H
              have p379 : 0 ≤ (x5_1 : Int) := of_decide_eq_true (by first | (with_reducible assumption) | assumption)
              have q379 : x5_1 < (l0.length : Int) := of_decide_eq_true (by first | (with_reducible assumption) | assumption)
              obtain ⟨ad379, e379, hx379_0⟩ := Kd.at_int HR0.out x5_1 p379 q379
              cases e379
              replace p379 := eq_true p379
              replace q379 := eq_true q379
              obtain ⟨i07, hi07, _, hsz7, _⟩ := info_parts info5
              obtain ⟨hcut7, hA7, hC7⟩ := print_take_of (P := Tryz.prog) (Value.int .u8) 0 22 5 .i64 Tryz.underlying22 hi07 hsz7 (some ad379) c0 l0 x5_1 (of_decide_eq_true (by first | (with_reducible assumption) | assumption)) (of_decide_eq_true (by first | (with_reducible assumption) | assumption)) HC0.out
              have HR380 := Aside0.mk (Kd.C_of_reads (h1 := fun _ => rfl) (hA7 _ (Kd.reads_of_C HR0.out)))
              have HC380 := Aside0.mk hC7
              clear hA7 hC7 hi07 hsz7
              have hcv8 := Kd.C_string (P := Tryz.prog) (A := (some ad379)) (c := c0) Tryz.underlying22 Tryz.underlying5 Tryz.underlying9 HR380.out
              have hx0 : 0 ≤ x5_1 := of_eq_true c5b0
              have hxl : x5_1 ≤ (l0.length : Int) := of_eq_true c6b0
              have hcv99 := Kd.C_string (P := Tryz.prog) (A := (some ad379)) (c := c0) Tryz.underlying22 Tryz.underlying5 Tryz.underlying9 (Kd.C_below HR380.out (by repeat (first | exact Below.refl _ _ | apply pw_below_drewN) : Below w.heap.size w (w.drewN m1)))
              rw [show (List.take x5_1.toNat l0).length = x5_1.toNat from by rw [List.length_take]; omega] at hcv99
              clear hcv8 hx0 hxl
              go_wp2
              go_ret3
              exact ⟨by first | rfl | (simp; done) | (simp [*]; done), by repeat (first | exact Drawn0.refl _ | apply Drawn0.step)⟩
            · rw [if_neg c6] at H
              exact absurd H (by simp)
          · rw [if_neg c4] at H
            have c4b0 : ((rd l0 x5_1) == 0) = false := beq_eq_false_iff_ne.mpr c4
            have c4b1 : ((rd l0 x5_1) != 0) = true := bne_iff_ne.mpr c4
            have H' := Aside0.mk H
            clear H
            have p379 : 0 ≤ (x5_1 : Int) := of_decide_eq_true (by first | (with_reducible assumption) | assumption)
            have q379 : x5_1 < (l0.length : Int) := of_decide_eq_true (by first | (with_reducible assumption) | assumption)
            obtain ⟨ad379, e379, hx379_0⟩ := Kd.at_int HR0.out x5_1 p379 q379
            cases e379
            replace p379 := eq_true p379
            replace q379 := eq_true q379
            go_wp2
            go_roundg k1
            case measure => have := HK1.out; omega
            case rel => exact ⟨(wrap64 (x5_1 + 1)), (by first | rfl | (simp; done) | (simp [*]; done)), H', ⟨by have := HK1.out; omega⟩, by repeat (first | exact Drawn0.refl _ | apply Drawn0.step)⟩
        · rw [if_neg c3] at H
          exact absurd H (by simp)
      · rw [if_neg c2] at H
        have c2b0 : decide (x5_1 < (l0.length : Int)) = false := decide_eq_false c2
        clear c2
        simp only [Option.some.injEq, Prod.mk.injEq] at H
        obtain ⟨rfl, rfl, rfl⟩ := H
        go_wp2
        go_ret3
        exact ⟨by first | rfl | (simp; done) | (simp [*]; done), by repeat (first | exact Drawn0.refl _ | apply Drawn0.step)⟩

/-! ### spec_DocLen: function 42 -/
mutual
def spec_DocLen.j0 : Nat → List Int → Int → Bool → Int → Bool → Option (Int × Bool)
  | 0, _, _, _, _, _ => none
  | k + 1, x1, x6, x7, x19, x20 => if x20 = true then (some (0, true)) else (if x19 = 8 then (some (1, decide ((x1.length : Int) ≥ 1))) else (if x19 = 16 then (some (4, x7)) else (if x19 = 1 then (spec_DocLen.j1 k x1 x6 x7 x19 (x19 == 1)) else (if x19 = 9 then (spec_DocLen.j1 k x1 x6 x7 x19 (x19 == 9)) else (if x19 = 18 then (spec_DocLen.j1 k x1 x6 x7 x19 (x19 == 18)) else (spec_DocLen.j1 k x1 x6 x7 x19 (x19 == 17)))))))
def spec_DocLen.j1 : Nat → List Int → Int → Bool → Int → Bool → Option (Int × Bool)
  | 0, _, _, _, _, _ => none
  | k + 1, x1, x6, x7, x19, x33 => if x33 = true then (some (8, decide ((x1.length : Int) ≥ 8))) else (if x19 = 7 then (some (12, decide ((x1.length : Int) ≥ 12))) else (if x19 = 19 then (some (16, decide ((x1.length : Int) ≥ 16))) else (if x19 = 2 then (spec_DocLen.j2 k x1 x6 x7 x19 (x19 == 2)) else (if x19 = 13 then (spec_DocLen.j2 k x1 x6 x7 x19 (x19 == 13)) else (spec_DocLen.j2 k x1 x6 x7 x19 (x19 == 14))))))
def spec_DocLen.j2 : Nat → List Int → Int → Bool → Int → Bool → Option (Int × Bool)
  | 0, _, _, _, _, _ => none
  | k + 1, x1, x6, x7, x19, x51 => if x51 = true then (if x7 = true then (if x6 ≥ 1 then (some (wrap64 (4 + x6), decide ((x1.length : Int) ≥ (wrap64 (4 + x6))))) else (some (wrap64 (4 + x6), false))) else (some (wrap64 (4 + x6), false))) else (if x19 = 3 then (spec_DocLen.j3 k x1 x6 x7 x19 (x19 == 3)) else (if x19 = 4 then (spec_DocLen.j3 k x1 x6 x7 x19 (x19 == 4)) else (spec_DocLen.j3 k x1 x6 x7 x19 (x19 == 15))))
def spec_DocLen.j3 : Nat → List Int → Int → Bool → Int → Bool → Option (Int × Bool)
  | 0, _, _, _, _, _ => none
  | k + 1, x1, x6, x7, x19, x69 => if x69 = true then (if x7 = true then (if x6 ≥ 5 then (some (x6, decide ((x1.length : Int) ≥ x6))) else (some (x6, false))) else (some (x6, false))) else (if x19 = 5 then (if x7 = true then (if x6 ≥ 0 then (some (wrap64 (5 + x6), decide ((x1.length : Int) ≥ (wrap64 (5 + x6))))) else (some (wrap64 (5 + x6), false))) else (some (wrap64 (5 + x6), false))) else (if x19 = 12 then (if x7 = true then (if x6 ≥ 1 then (some (wrap64 (16 + x6), decide ((x1.length : Int) ≥ (wrap64 (16 + x6))))) else (some (wrap64 (16 + x6), false))) else (some (wrap64 (16 + x6), false))) else (if x19 = 11 then ((spec_DocName.f k x1).bind fun bt383 => (if 0 ≤ bt383.2.1 then (if bt383.2.1 ≤ (x1.length : Int) then ((spec_DocName.f k (x1.drop (bt383.2.1 : Int).toNat)).bind fun bt387 => (if bt383.2.2 = true then (some (wrap64 (bt383.2.1 + bt387.2.1), bt387.2.2)) else (some (wrap64 (bt383.2.1 + bt387.2.1), false)))) else (none)) else (none))) else (some (0, false)))))
end
def spec_DocLen.f (k : Nat) (a0 : Int) (l1 : List Int) : Option (Int × Bool) := (spec_DocNumber.f l1).bind fun bt381 => (if a0 = 6 then (spec_DocLen.j0 k l1 bt381.1 bt381.2 a0 (a0 == 6)) else (if a0 = 10 then (spec_DocLen.j0 k l1 bt381.1 bt381.2 a0 (a0 == 10)) else (if a0 = 255 then (spec_DocLen.j0 k l1 bt381.1 bt381.2 a0 (a0 == 255)) else (spec_DocLen.j0 k l1 bt381.1 bt381.2 a0 (a0 == 127)))))
theorem spec_DocLen.mono_l : ∀ k, (∀ y0 y1 y2 y3 y4, LeO (spec_DocLen.j0 k y0 y1 y2 y3 y4) (spec_DocLen.j0 (k + 1) y0 y1 y2 y3 y4)) ∧ (∀ y0 y1 y2 y3 y4, LeO (spec_DocLen.j1 k y0 y1 y2 y3 y4) (spec_DocLen.j1 (k + 1) y0 y1 y2 y3 y4)) ∧ (∀ y0 y1 y2 y3 y4, LeO (spec_DocLen.j2 k y0 y1 y2 y3 y4) (spec_DocLen.j2 (k + 1) y0 y1 y2 y3 y4)) ∧ (∀ y0 y1 y2 y3 y4, LeO (spec_DocLen.j3 k y0 y1 y2 y3 y4) (spec_DocLen.j3 (k + 1) y0 y1 y2 y3 y4))
  | 0 => ⟨fun _ _ _ _ _ r h => by simp [spec_DocLen.j0] at h, fun _ _ _ _ _ r h => by simp [spec_DocLen.j1] at h, fun _ _ _ _ _ r h => by simp [spec_DocLen.j2] at h, fun _ _ _ _ _ r h => by simp [spec_DocLen.j3] at h⟩
  | k + 1 => by
    obtain ⟨ih0, ih1, ih2, ih3⟩ := spec_DocLen.mono_l k
    refine ⟨?_, ?_, ?_, ?_⟩
    · intro y0 y1 y2 y3 y4
      unfold spec_DocLen.j0
      repeat' first
      | (with_reducible exact ih0 _ _ _ _ _)
      | (with_reducible exact ih1 _ _ _ _ _)
      | (with_reducible exact ih2 _ _ _ _ _)
      | (with_reducible exact ih3 _ _ _ _ _)
      | (with_reducible exact spec_DocName.mono _ _)
      | (with_reducible exact LeO.refl _)
      | (with_reducible exact LeO.none _)
      | (with_reducible refine LeO.ite ?_ ?_)
      | (with_reducible refine LeO.bind ?_ (fun _ => ?_))
      | exact ih0 _ _ _ _ _
      | exact ih1 _ _ _ _ _
      | exact ih2 _ _ _ _ _
      | exact ih3 _ _ _ _ _
      | exact spec_DocName.mono _ _
      | exact LeO.none _
      | refine LeO.ite ?_ ?_
      | refine LeO.bind ?_ (fun _ => ?_)
    · intro y0 y1 y2 y3 y4
      unfold spec_DocLen.j1
      repeat' first
      | (with_reducible exact ih0 _ _ _ _ _)
      | (with_reducible exact ih1 _ _ _ _ _)
      | (with_reducible exact ih2 _ _ _ _ _)
      | (with_reducible exact ih3 _ _ _ _ _)
      | (with_reducible exact spec_DocName.mono _ _)
      | (with_reducible exact LeO.refl _)
      | (with_reducible exact LeO.none _)
      | (with_reducible refine LeO.ite ?_ ?_)
      | (with_reducible refine LeO.bind ?_ (fun _ => ?_))
      | exact ih0 _ _ _ _ _
      | exact ih1 _ _ _ _ _
      | exact ih2 _ _ _ _ _
      | exact ih3 _ _ _ _ _
      | exact spec_DocName.mono _ _
      | exact LeO.none _
      | refine LeO.ite ?_ ?_
      | refine LeO.bind ?_ (fun _ => ?_)
    · intro y0 y1 y2 y3 y4
      unfold spec_DocLen.j2
      repeat' first
      | (with_reducible exact ih0 _ _ _ _ _)
      | (with_reducible exact ih1 _ _ _ _ _)
      | (with_reducible exact ih2 _ _ _ _ _)
      | (with_reducible exact ih3 _ _ _ _ _)
      | (with_reducible exact spec_DocName.mono _ _)
      | (with_reducible exact LeO.refl _)
      | (with_reducible exact LeO.none _)
      | (with_reducible refine LeO.ite ?_ ?_)
      | (with_reducible refine LeO.bind ?_ (fun _ => ?_))
      | exact ih0 _ _ _ _ _
      | exact ih1 _ _ _ _ _
      | exact ih2 _ _ _ _ _
      | exact ih3 _ _ _ _ _
      | exact spec_DocName.mono _ _
      | exact LeO.none _
      | refine LeO.ite ?_ ?_
      | refine LeO.bind ?_ (fun _ => ?_)
    · intro y0 y1 y2 y3 y4
      unfold spec_DocLen.j3
      repeat' first
      | (with_reducible exact ih0 _ _ _ _ _)
      | (with_reducible exact ih1 _ _ _ _ _)
      | (with_reducible exact ih2 _ _ _ _ _)
      | (with_reducible exact ih3 _ _ _ _ _)
      | (with_reducible exact spec_DocName.mono _ _)
      | (with_reducible exact LeO.refl _)
      | (with_reducible exact LeO.none _)
      | (with_reducible refine LeO.ite ?_ ?_)
      | (with_reducible refine LeO.bind ?_ (fun _ => ?_))
      | exact ih0 _ _ _ _ _
      | exact ih1 _ _ _ _ _
      | exact ih2 _ _ _ _ _
      | exact ih3 _ _ _ _ _
      | exact spec_DocName.mono _ _
      | exact LeO.none _
      | refine LeO.ite ?_ ?_
      | refine LeO.bind ?_ (fun _ => ?_)
theorem spec_DocLen.mono : ∀ a0 a1 k, LeO (spec_DocLen.f k a0 a1) (spec_DocLen.f (k + 1) a0 a1) := by
  intro a0 a1 k
  obtain ⟨ih0, ih1, ih2, ih3⟩ := spec_DocLen.mono_l k
  unfold spec_DocLen.f
  repeat' first
      | (with_reducible exact ih0 _ _ _ _ _)
      | (with_reducible exact ih1 _ _ _ _ _)
      | (with_reducible exact ih2 _ _ _ _ _)
      | (with_reducible exact ih3 _ _ _ _ _)
      | (with_reducible exact spec_DocName.mono _ _)
      | (with_reducible exact LeO.refl _)
      | (with_reducible exact LeO.none _)
      | (with_reducible refine LeO.ite ?_ ?_)
      | (with_reducible refine LeO.bind ?_ (fun _ => ?_))
      | exact ih0 _ _ _ _ _
      | exact ih1 _ _ _ _ _
      | exact ih2 _ _ _ _ _
      | exact ih3 _ _ _ _ _
      | exact spec_DocName.mono _ _
      | exact LeO.none _
      | refine LeO.ite ?_ ?_
      | refine LeO.bind ?_ (fun _ => ?_)
set_option maxHeartbeats 8000000 in
set_option maxRecDepth 100000 in
theorem spec_DocLen.calls (k : Nat) (a0 : Int) (A1 : Option Addr) (c1 : Nat) (l1 : List Int) (r1 : Int) (r2 : Bool) (w : World) (hr1 : Kd.C (Kd.int .u8) w A1 l1.length l1) (hc1 : l1.length ≤ c1) (h : spec_DocLen.f k a0 l1 = some (r1, r2)) :
    Calls Tryz.prog 42 #[.int .i64 a0, .slice A1 l1.length c1] w fun e w' => e = .returned (.tuple #[.int .i64 r1, .bool r2]) ∧ Drawn0 w w' := by
  have HR1 := Aside0.mk hr1
  have HC1 := Aside0.mk hc1
  clear hr1 hc1
  have H : ((spec_DocNumber.f l1).bind fun bt381 => (if a0 = 6 then (spec_DocLen.j0 k l1 bt381.1 bt381.2 a0 (a0 == 6)) else (if a0 = 10 then (spec_DocLen.j0 k l1 bt381.1 bt381.2 a0 (a0 == 10)) else (if a0 = 255 then (spec_DocLen.j0 k l1 bt381.1 bt381.2 a0 (a0 == 255)) else (spec_DocLen.j0 k l1 bt381.1 bt381.2 a0 (a0 == 127)))))) = some (r1, r2) := h
  clear h
  replace H := Option.bind_eq_some_iff.mp H
  obtain ⟨⟨t381, t382⟩, A30, H⟩ := H
  replace H : (if a0 = 6 then (spec_DocLen.j0 k l1 t381 t382 a0 (a0 == 6)) else (if a0 = 10 then (spec_DocLen.j0 k l1 t381 t382 a0 (a0 == 10)) else (if a0 = 255 then (spec_DocLen.j0 k l1 t381 t382 a0 (a0 == 255)) else (spec_DocLen.j0 k l1 t381 t382 a0 (a0 == 127))))) = some (r1, r2) := H
  have A3 := Aside0.mk A30
  clear A30
  have HC4 := Aside0.mk H
  clear H
  go_enter Tryz.func42, Tryz.ntmps42
  go_upto_if 20 with (first | ((with_reducible refine gate_callee (f := 43) rfl ?_); refine goesL_ (some 16) rfl rfl Tryz.func43 (by kernel_rfl) rfl #[.slice A1 l1.length c1] rfl (by (try simp only [List.map_toArray, List.map_cons, List.map_nil]); first | done | rfl | (simp only [List.length_drop, List.length_take]; rfl)) ?_; (with_reducible refine (spec_DocNumber.calls _ _ l1 t381 t382 _ ?side1 ?side2 A3.out).mono ?_); (case side1 => repeat (first | exact HR1.out | (with_reducible refine Kd.C_alloc ?_ _) | (with_reducible refine Kd.C_drewN ?_ _) | (with_reducible refine Kd.C_drew ?_))); (case side2 => exact HC1.out); rintro e w' ⟨rfl, ⟨nd, rfl⟩⟩; refine ⟨_, rfl, ?_⟩))
  (try simp only [Act.put, List.setIfInBounds_toArray, List.set_cons_zero, List.set_cons_succ])
  go_cut [20] (fun v20 wc => ∃ (kq : Nat) (x20_3 : Bool), v20 = .bool x20_3 ∧ Aside0 (spec_DocLen.j0 kq l1 t381 t382 a0 x20_3 = some (r1, r2)) ∧ Aside0 (kq ≤ k) ∧ Drawn0 w wc)
  case first =>
    have H := HC4.out
    clear HC4
    by_cases c5 : a0 = 6
    · rw [if_pos c5] at H
      have c5b0 : (a0 == 6) = true := beq_iff_eq.mpr c5
      have c5b1 : (a0 != 6) = false := bne_eq_false_iff_eq.mpr c5
      clear c5
      (first | rw [c5b0] | (simp only [i64_w, i32_w]; rw [c5b0]) | skip)
      have H' := Aside0.mk H
      clear H
      go_wp2
      go_meet
      case rel => exact ⟨_, ((a0 == 6)), (by first | rfl | (simp; done) | (simp [*]; done)), H', ⟨by first | omega | exact Nat.le_refl _⟩, by repeat (first | exact Drawn0.refl _ | apply Drawn0.step)⟩
    · rw [if_neg c5] at H
      have c5b0 : (a0 == 6) = false := beq_eq_false_iff_ne.mpr c5
      have c5b1 : (a0 != 6) = true := bne_iff_ne.mpr c5
      (first | rw [c5b0] | (simp only [i64_w, i32_w]; rw [c5b0]) | skip)
      by_cases c6 : a0 = 10
      · rw [if_pos c6] at H
        have c6b0 : (a0 == 10) = true := beq_iff_eq.mpr c6
        have c6b1 : (a0 != 10) = false := bne_eq_false_iff_eq.mpr c6
        clear c6
        have H' := Aside0.mk H
        clear H
        go_wp2
        go_meet
        case rel => exact ⟨_, ((a0 == 10)), (by first | rfl | (simp; done) | (simp [*]; done)), H', ⟨by first | omega | exact Nat.le_refl _⟩, by repeat (first | exact Drawn0.refl _ | apply Drawn0.step)⟩
      · rw [if_neg c6] at H
        have c6b0 : (a0 == 10) = false := beq_eq_false_iff_ne.mpr c6
        have c6b1 : (a0 != 10) = true := bne_iff_ne.mpr c6
        by_cases c7 : a0 = 255
        · rw [if_pos c7] at H
          have c7b0 : (a0 == 255) = true := beq_iff_eq.mpr c7
          have c7b1 : (a0 != 255) = false := bne_eq_false_iff_eq.mpr c7
          clear c7
          have H' := Aside0.mk H
          clear H
          go_wp2
          go_meet
          case rel => exact ⟨_, ((a0 == 255)), (by first | rfl | (simp; done) | (simp [*]; done)), H', ⟨by first | omega | exact Nat.le_refl _⟩, by repeat (first | exact Drawn0.refl _ | apply Drawn0.step)⟩
        · rw [if_neg c7] at H
          have c7b0 : (a0 == 255) = false := beq_eq_false_iff_ne.mpr c7
          have c7b1 : (a0 != 255) = true := bne_iff_ne.mpr c7
          have H' := Aside0.mk H
          clear H
          go_wp2
          go_meet
          case rel => exact ⟨_, ((a0 == 127)), (by first | rfl | (simp; done) | (simp [*]; done)), H', ⟨by first | omega | exact Nat.le_refl _⟩, by repeat (first | exact Drawn0.refl _ | apply Drawn0.step)⟩
  case rest =>
    clear HC4
    try clear c1
    try clear p2
    try clear c4
    try clear c5
    try clear c5b0
    try clear c5b1
    try clear c6
    try clear c6b0
    try clear c6b1
    try clear c7
    try clear c7b0
    try clear c7b1
    obtain ⟨kq, x20_3, rfl, HA, HJ3, ⟨mc3, rfl⟩⟩ := hcut
    cases kq with
    | zero => exact absurd HA.out (by simp [spec_DocLen.j0])
    | succ kj3 =>
      have H := HA.out
      clear HA
      simp only [spec_DocLen.j0] at H
      by_cases c8 : x20_3 = true
      · subst c8
        have H1 : (some (0, true)) = some (r1, r2) := by rw [if_pos rfl] at H; exact H
        clear H
        have H := H1
        clear H1
        simp only [Option.some.injEq, Prod.mk.injEq] at H
        obtain ⟨rfl, rfl⟩ := H
        go_wp2
        go_ret2
        exact ⟨by first | rfl | (simp; done) | (simp [*]; done), by repeat (first | exact Drawn0.refl _ | apply Drawn0.step)⟩
      · replace c8 := Bool.eq_false_iff.mpr c8
        subst c8
        have H1 : (if a0 = 8 then (some (1, decide ((l1.length : Int) ≥ 1))) else (if a0 = 16 then (some (4, t382)) else (if a0 = 1 then (spec_DocLen.j1 kj3 l1 t381 t382 a0 (a0 == 1)) else (if a0 = 9 then (spec_DocLen.j1 kj3 l1 t381 t382 a0 (a0 == 9)) else (if a0 = 18 then (spec_DocLen.j1 kj3 l1 t381 t382 a0 (a0 == 18)) else (spec_DocLen.j1 kj3 l1 t381 t382 a0 (a0 == 17))))))) = some (r1, r2) := by rw [if_neg (show ¬ (false = true) by decide)] at H; exact H
        clear H
        have H := H1
        clear H1
        by_cases c9 : a0 = 8
        · rw [if_pos c9] at H
          have c9b0 : (a0 == 8) = true := beq_iff_eq.mpr c9
          have c9b1 : (a0 != 8) = false := bne_eq_false_iff_eq.mpr c9
          clear c9
          simp only [Option.some.injEq, Prod.mk.injEq] at H
          obtain ⟨rfl, rfl⟩ := H
          go_wp2
          go_ret2
          exact ⟨by first | rfl | (simp; done) | (simp [*]; done), by repeat (first | exact Drawn0.refl _ | apply Drawn0.step)⟩
        · rw [if_neg c9] at H
          have c9b0 : (a0 == 8) = false := beq_eq_false_iff_ne.mpr c9
          have c9b1 : (a0 != 8) = true := bne_iff_ne.mpr c9
          by_cases c10 : a0 = 16
          · rw [if_pos c10] at H
            have c10b0 : (a0 == 16) = true := beq_iff_eq.mpr c10
            have c10b1 : (a0 != 16) = false := bne_eq_false_iff_eq.mpr c10
            clear c10
            simp only [Option.some.injEq, Prod.mk.injEq] at H
            obtain ⟨rfl, rfl⟩ := H
            go_wp2
            go_ret2
            exact ⟨by first | rfl | (simp; done) | (simp [*]; done), by repeat (first | exact Drawn0.refl _ | apply Drawn0.step)⟩
          · rw [if_neg c10] at H
            have c10b0 : (a0 == 16) = false := beq_eq_false_iff_ne.mpr c10
            have c10b1 : (a0 != 16) = true := bne_iff_ne.mpr c10
            have HC11 := Aside0.mk H
            clear H
            go_upto_if 33 with (fail)
            go_cut [33] (fun v33 wc => ∃ (kq : Nat) (x33_10 : Bool), v33 = .bool x33_10 ∧ Aside0 (spec_DocLen.j1 kq l1 t381 t382 a0 x33_10 = some (r1, r2)) ∧ Aside0 (kq ≤ kj3) ∧ Drawn0 w wc)
            case first =>
              have H := HC11.out
              clear HC11
              by_cases c12 : a0 = 1
              · rw [if_pos c12] at H
                have c12b0 : (a0 == 1) = true := beq_iff_eq.mpr c12
                have c12b1 : (a0 != 1) = false := bne_eq_false_iff_eq.mpr c12
                clear c12
                (first | rw [c12b0] | (simp only [i64_w, i32_w]; rw [c12b0]) | skip)
                have H' := Aside0.mk H
                clear H
                go_wp2
                go_meet
                case rel => exact ⟨_, ((a0 == 1)), (by first | rfl | (simp; done) | (simp [*]; done)), H', ⟨by have := HJ3.out; first | omega | exact Nat.le_refl _⟩, by repeat (first | exact Drawn0.refl _ | apply Drawn0.step)⟩
              · rw [if_neg c12] at H
                have c12b0 : (a0 == 1) = false := beq_eq_false_iff_ne.mpr c12
                have c12b1 : (a0 != 1) = true := bne_iff_ne.mpr c12
                (first | rw [c12b0] | (simp only [i64_w, i32_w]; rw [c12b0]) | skip)
                by_cases c13 : a0 = 9
                · rw [if_pos c13] at H
                  have c13b0 : (a0 == 9) = true := beq_iff_eq.mpr c13
                  have c13b1 : (a0 != 9) = false := bne_eq_false_iff_eq.mpr c13
                  clear c13
                  have H' := Aside0.mk H
                  clear H
                  go_wp2
                  go_meet
                  case rel => exact ⟨_, ((a0 == 9)), (by first | rfl | (simp; done) | (simp [*]; done)), H', ⟨by have := HJ3.out; first | omega | exact Nat.le_refl _⟩, by repeat (first | exact Drawn0.refl _ | apply Drawn0.step)⟩
                · rw [if_neg c13] at H
                  have c13b0 : (a0 == 9) = false := beq_eq_false_iff_ne.mpr c13
                  have c13b1 : (a0 != 9) = true := bne_iff_ne.mpr c13
                  by_cases c14 : a0 = 18
                  · rw [if_pos c14] at H
                    have c14b0 : (a0 == 18) = true := beq_iff_eq.mpr c14
                    have c14b1 : (a0 != 18) = false := bne_eq_false_iff_eq.mpr c14
                    clear c14
                    have H' := Aside0.mk H
                    clear H
                    go_wp2
                    go_meet
                    case rel => exact ⟨_, ((a0 == 18)), (by first | rfl | (simp; done) | (simp [*]; done)), H', ⟨by have := HJ3.out; first | omega | exact Nat.le_refl _⟩, by repeat (first | exact Drawn0.refl _ | apply Drawn0.step)⟩
                  · rw [if_neg c14] at H
                    have c14b0 : (a0 == 18) = false := beq_eq_false_iff_ne.mpr c14
                    have c14b1 : (a0 != 18) = true := bne_iff_ne.mpr c14
                    have H' := Aside0.mk H
                    clear H
                    go_wp2
                    go_meet
                    case rel => exact ⟨_, ((a0 == 17)), (by first | rfl | (simp; done) | (simp [*]; done)), H', ⟨by have := HJ3.out; first | omega | exact Nat.le_refl _⟩, by repeat (first | exact Drawn0.refl _ | apply Drawn0.step)⟩
            case rest =>
              clear HC11
              try clear c1
              try clear p2
              try clear c3
              try clear c4
              try clear c5
              try clear c5b0
              try clear c5b1
              try clear c6
              try clear c6b0
              try clear c6b1
              try clear c7
              try clear c7b0
              try clear c7b1
              try clear c8
              try clear c9
              try clear c9b0
              try clear c9b1
              try clear c10
              try clear c10b0
              try clear c10b1
              try clear c12
              try clear c12b0
              try clear c12b1
              try clear c13
              try clear c13b0
              try clear c13b1
              try clear c14
              try clear c14b0
              try clear c14b1
              try clear p2
              obtain ⟨kq, x33_10, rfl, HA, HJ10, ⟨mc10, rfl⟩⟩ := hcut
              cases kq with
              | zero => exact absurd HA.out (by simp [spec_DocLen.j1])
              | succ kj10 =>
                have H := HA.out
                clear HA
                simp only [spec_DocLen.j1] at H
                by_cases c15 : x33_10 = true
                · subst c15
                  have H1 : (some (8, decide ((l1.length : Int) ≥ 8))) = some (r1, r2) := by rw [if_pos rfl] at H; exact H
                  clear H
                  have H := H1
                  clear H1
                  simp only [Option.some.injEq, Prod.mk.injEq] at H
                  obtain ⟨rfl, rfl⟩ := H
                  go_wp2
                  go_ret2
                  exact ⟨by first | rfl | (simp; done) | (simp [*]; done), by repeat (first | exact Drawn0.refl _ | apply Drawn0.step)⟩
                · replace c15 := Bool.eq_false_iff.mpr c15
                  subst c15
                  have H1 : (if a0 = 7 then (some (12, decide ((l1.length : Int) ≥ 12))) else (if a0 = 19 then (some (16, decide ((l1.length : Int) ≥ 16))) else (if a0 = 2 then (spec_DocLen.j2 kj10 l1 t381 t382 a0 (a0 == 2)) else (if a0 = 13 then (spec_DocLen.j2 kj10 l1 t381 t382 a0 (a0 == 13)) else (spec_DocLen.j2 kj10 l1 t381 t382 a0 (a0 == 14)))))) = some (r1, r2) := by rw [if_neg (show ¬ (false = true) by decide)] at H; exact H
                  clear H
                  have H := H1
                  clear H1
                  by_cases c16 : a0 = 7
                  · rw [if_pos c16] at H
                    have c16b0 : (a0 == 7) = true := beq_iff_eq.mpr c16
                    have c16b1 : (a0 != 7) = false := bne_eq_false_iff_eq.mpr c16
                    clear c16
                    simp only [Option.some.injEq, Prod.mk.injEq] at H
                    obtain ⟨rfl, rfl⟩ := H
                    go_wp2
                    go_ret2
                    exact ⟨by first | rfl | (simp; done) | (simp [*]; done), by repeat (first | exact Drawn0.refl _ | apply Drawn0.step)⟩
                  · rw [if_neg c16] at H
                    have c16b0 : (a0 == 7) = false := beq_eq_false_iff_ne.mpr c16
                    have c16b1 : (a0 != 7) = true := bne_iff_ne.mpr c16
                    by_cases c17 : a0 = 19
                    · rw [if_pos c17] at H
                      have c17b0 : (a0 == 19) = true := beq_iff_eq.mpr c17
                      have c17b1 : (a0 != 19) = false := bne_eq_false_iff_eq.mpr c17
                      clear c17
                      simp only [Option.some.injEq, Prod.mk.injEq] at H
                      obtain ⟨rfl, rfl⟩ := H
                      go_wp2
                      go_ret2
                      exact ⟨by first | rfl | (simp; done) | (simp [*]; done), by repeat (first | exact Drawn0.refl _ | apply Drawn0.step)⟩
                    · rw [if_neg c17] at H
                      have c17b0 : (a0 == 19) = false := beq_eq_false_iff_ne.mpr c17
                      have c17b1 : (a0 != 19) = true := bne_iff_ne.mpr c17
                      have HC18 := Aside0.mk H
                      clear H
                      go_upto_if 51 with (fail)
                      go_cut [51] (fun v51 wc => ∃ (kq : Nat) (x51_17 : Bool), v51 = .bool x51_17 ∧ Aside0 (spec_DocLen.j2 kq l1 t381 t382 a0 x51_17 = some (r1, r2)) ∧ Aside0 (kq ≤ kj10) ∧ Drawn0 w wc)
                      case first =>
                        have H := HC18.out
                        clear HC18
                        by_cases c19 : a0 = 2
                        · rw [if_pos c19] at H
                          have c19b0 : (a0 == 2) = true := beq_iff_eq.mpr c19
                          have c19b1 : (a0 != 2) = false := bne_eq_false_iff_eq.mpr c19
                          clear c19
                          (first | rw [c19b0] | (simp only [i64_w, i32_w]; rw [c19b0]) | skip)
                          have H' := Aside0.mk H
                          clear H
                          go_wp2
                          go_meet
                          case rel => exact ⟨_, ((a0 == 2)), (by first | rfl | (simp; done) | (simp [*]; done)), H', ⟨by have := HJ3.out; have := HJ10.out; first | omega | exact Nat.le_refl _⟩, by repeat (first | exact Drawn0.refl _ | apply Drawn0.step)⟩
                        · rw [if_neg c19] at H
                          have c19b0 : (a0 == 2) = false := beq_eq_false_iff_ne.mpr c19
                          have c19b1 : (a0 != 2) = true := bne_iff_ne.mpr c19
                          (first | rw [c19b0] | (simp only [i64_w, i32_w]; rw [c19b0]) | skip)
                          by_cases c20 : a0 = 13
                          · rw [if_pos c20] at H
                            have c20b0 : (a0 == 13) = true := beq_iff_eq.mpr c20
                            have c20b1 : (a0 != 13) = false := bne_eq_false_iff_eq.mpr c20
                            clear c20
                            have H' := Aside0.mk H
                            clear H
                            go_wp2
                            go_meet
                            case rel => exact ⟨_, ((a0 == 13)), (by first | rfl | (simp; done) | (simp [*]; done)), H', ⟨by have := HJ3.out; have := HJ10.out; first | omega | exact Nat.le_refl _⟩, by repeat (first | exact Drawn0.refl _ | apply Drawn0.step)⟩
                          · rw [if_neg c20] at H
                            have c20b0 : (a0 == 13) = false := beq_eq_false_iff_ne.mpr c20
                            have c20b1 : (a0 != 13) = true := bne_iff_ne.mpr c20
                            have H' := Aside0.mk H
                            clear H
                            go_wp2
                            go_meet
                            case rel => exact ⟨_, ((a0 == 14)), (by first | rfl | (simp; done) | (simp [*]; done)), H', ⟨by have := HJ3.out; have := HJ10.out; first | omega | exact Nat.le_refl _⟩, by repeat (first | exact Drawn0.refl _ | apply Drawn0.step)⟩
                      case rest =>
                        clear HC18
                        try clear c1
                        try clear c2
                        try clear p2
                        try clear c3
                        try clear c4
                        try clear c5
                        try clear c5b0
                        try clear c5b1
                        try clear c6
                        try clear c6b0
                        try clear c6b1
                        try clear c7
                        try clear c7b0
                        try clear c7b1
                        try clear c8
                        try clear c9
                        try clear c9b0
                        try clear c9b1
                        try clear c10
                        try clear c10b0
                        try clear c10b1
                        try clear c12
                        try clear c12b0
                        try clear c12b1
                        try clear c13
                        try clear c13b0
                        try clear c13b1
                        try clear c14
                        try clear c14b0
                        try clear c14b1
                        try clear c15
                        try clear c16
                        try clear c16b0
                        try clear c16b1
                        try clear c17
                        try clear c17b0
                        try clear c17b1
                        try clear c19
                        try clear c19b0
                        try clear c19b1
                        try clear c20
                        try clear c20b0
                        try clear c20b1
                        try clear p2
                        obtain ⟨kq, x51_17, rfl, HA, HJ17, ⟨mc17, rfl⟩⟩ := hcut
                        cases kq with
                        | zero => exact absurd HA.out (by simp [spec_DocLen.j2])
                        | succ kj17 =>
                          have H := HA.out
                          clear HA
                          simp only [spec_DocLen.j2] at H
                          by_cases c21 : x51_17 = true
                          · subst c21
                            have H1 : (if t382 = true then (if t381 ≥ 1 then (some (wrap64 (4 + t381), decide ((l1.length : Int) ≥ (wrap64 (4 + t381))))) else (some (wrap64 (4 + t381), false))) else (some (wrap64 (4 + t381), false))) = some (r1, r2) := by rw [if_pos rfl] at H; exact H
                            clear H
                            have H := H1
                            clear H1
                            by_cases c22 : t382 = true
                            · subst c22
                              have H1 : (if t381 ≥ 1 then (some (wrap64 (4 + t381), decide ((l1.length : Int) ≥ (wrap64 (4 + t381))))) else (some (wrap64 (4 + t381), false))) = some (r1, r2) := by rw [if_pos rfl] at H; exact H
                              clear H
                              have H := H1
                              clear H1
                              by_cases c23 : t381 ≥ 1
                              · rw [if_pos c23] at H
                                have c23b0 : decide (1 ≤ t381) = true := decide_eq_true c23
                                clear c23
                                simp only [Option.some.injEq, Prod.mk.injEq] at H
                                obtain ⟨rfl, rfl⟩ := H
                                go_wp2
                                go_ret2
                                exact ⟨by first | rfl | (simp; done) | (simp [*]; done), by repeat (first | exact Drawn0.refl _ | apply Drawn0.step)⟩
                              · rw [if_neg c23] at H
                                have c23b0 : decide (1 ≤ t381) = false := decide_eq_false c23
                                clear c23
                                simp only [Option.some.injEq, Prod.mk.injEq] at H
                                obtain ⟨rfl, rfl⟩ := H
                                go_wp2
                                go_ret2
                                exact ⟨by first | rfl | (simp; done) | (simp [*]; done), by repeat (first | exact Drawn0.refl _ | apply Drawn0.step)⟩
                            · replace c22 := Bool.eq_false_iff.mpr c22
                              subst c22
                              have H1 : (some (wrap64 (4 + t381), false)) = some (r1, r2) := by rw [if_neg (show ¬ (false = true) by decide)] at H; exact H
                              clear H
                              have H := H1
                              clear H1
                              simp only [Option.some.injEq, Prod.mk.injEq] at H
                              obtain ⟨rfl, rfl⟩ := H
                              go_wp2
                              go_ret2
                              exact ⟨by first | rfl | (simp; done) | (simp [*]; done), by repeat (first | exact Drawn0.refl _ | apply Drawn0.step)⟩
                          · replace c21 := Bool.eq_false_iff.mpr c21
                            subst c21
                            have H1 : (if a0 = 3 then (spec_DocLen.j3 kj17 l1 t381 t382 a0 (a0 == 3)) else (if a0 = 4 then (spec_DocLen.j3 kj17 l1 t381 t382 a0 (a0 == 4)) else (spec_DocLen.j3 kj17 l1 t381 t382 a0 (a0 == 15)))) = some (r1, r2) := by rw [if_neg (show ¬ (false = true) by decide)] at H; exact H
                            clear H
                            have H := H1
                            clear H1
                            have HC24 := Aside0.mk H
                            clear H
                            go_upto_if 69 with (fail)
                            go_cut [69] (fun v69 wc => ∃ (kq : Nat) (x69_23 : Bool), v69 = .bool x69_23 ∧ Aside0 (spec_DocLen.j3 kq l1 t381 t382 a0 x69_23 = some (r1, r2)) ∧ Aside0 (kq ≤ kj17) ∧ Drawn0 w wc)
                            case first =>
                              have H := HC24.out
                              clear HC24
                              by_cases c25 : a0 = 3
                              · rw [if_pos c25] at H
                                have c25b0 : (a0 == 3) = true := beq_iff_eq.mpr c25
                                have c25b1 : (a0 != 3) = false := bne_eq_false_iff_eq.mpr c25
                                clear c25
                                (first | rw [c25b0] | (simp only [i64_w, i32_w]; rw [c25b0]) | skip)
                                have H' := Aside0.mk H
                                clear H
                                go_wp2
                                go_meet
                                case rel => exact ⟨_, ((a0 == 3)), (by first | rfl | (simp; done) | (simp [*]; done)), H', ⟨by have := HJ3.out; have := HJ10.out; have := HJ17.out; first | omega | exact Nat.le_refl _⟩, by repeat (first | exact Drawn0.refl _ | apply Drawn0.step)⟩
                              · rw [if_neg c25] at H
                                have c25b0 : (a0 == 3) = false := beq_eq_false_iff_ne.mpr c25
                                have c25b1 : (a0 != 3) = true := bne_iff_ne.mpr c25
                                (first | rw [c25b0] | (simp only [i64_w, i32_w]; rw [c25b0]) | skip)
                                by_cases c26 : a0 = 4
                                · rw [if_pos c26] at H
                                  have c26b0 : (a0 == 4) = true := beq_iff_eq.mpr c26
                                  have c26b1 : (a0 != 4) = false := bne_eq_false_iff_eq.mpr c26
                                  clear c26
                                  have H' := Aside0.mk H
                                  clear H
                                  go_wp2
                                  go_meet
                                  case rel => exact ⟨_, ((a0 == 4)), (by first | rfl | (simp; done) | (simp [*]; done)), H', ⟨by have := HJ3.out; have := HJ10.out; have := HJ17.out; first | omega | exact Nat.le_refl _⟩, by repeat (first | exact Drawn0.refl _ | apply Drawn0.step)⟩
                                · rw [if_neg c26] at H
                                  have c26b0 : (a0 == 4) = false := beq_eq_false_iff_ne.mpr c26
                                  have c26b1 : (a0 != 4) = true := bne_iff_ne.mpr c26
                                  have H' := Aside0.mk H
                                  clear H
                                  go_wp2
                                  go_meet
                                  case rel => exact ⟨_, ((a0 == 15)), (by first | rfl | (simp; done) | (simp [*]; done)), H', ⟨by have := HJ3.out; have := HJ10.out; have := HJ17.out; first | omega | exact Nat.le_refl _⟩, by repeat (first | exact Drawn0.refl _ | apply Drawn0.step)⟩
                            case rest =>
                              clear HC24
                              try clear c1
                              try clear c2
                              try clear p2
                              try clear c3
                              try clear c4
                              try clear c5
                              try clear c5b0
                              try clear c5b1
                              try clear c6
                              try clear c6b0
                              try clear c6b1
                              try clear p6
                              try clear c7
                              try clear c7b0
                              try clear c7b1
                              try clear c8
                              try clear c9
                              try clear c9b0
                              try clear c9b1
                              try clear c10
                              try clear c10b0
                              try clear c10b1
                              try clear c12
                              try clear c12b0
                              try clear c12b1
                              try clear c13
                              try clear c13b0
                              try clear c13b1
                              try clear c14
                              try clear c14b0
                              try clear c14b1
                              try clear c15
                              try clear c16
                              try clear c16b0
                              try clear c16b1
                              try clear c17
                              try clear c17b0
                              try clear c17b1
                              try clear c19
                              try clear c19b0
                              try clear c19b1
                              try clear c20
                              try clear c20b0
                              try clear c20b1
                              try clear c21
                              try clear c22
                              try clear c23
                              try clear c23b0
                              try clear c25
                              try clear c25b0
                              try clear c25b1
                              try clear c26
                              try clear c26b0
                              try clear c26b1
                              try clear p2
                              obtain ⟨kq, x69_23, rfl, HA, HJ23, ⟨mc23, rfl⟩⟩ := hcut
                              cases kq with
                              | zero => exact absurd HA.out (by simp [spec_DocLen.j3])
                              | succ kj23 =>
                                have H := HA.out
                                clear HA
                                simp only [spec_DocLen.j3] at H
                                by_cases c27 : x69_23 = true
                                · subst c27
                                  have H1 : (if t382 = true then (if t381 ≥ 5 then (some (t381, decide ((l1.length : Int) ≥ t381))) else (some (t381, false))) else (some (t381, false))) = some (r1, r2) := by rw [if_pos rfl] at H; exact H
                                  clear H
                                  have H := H1
                                  clear H1
                                  by_cases c28 : t382 = true
                                  · subst c28
                                    have H1 : (if t381 ≥ 5 then (some (t381, decide ((l1.length : Int) ≥ t381))) else (some (t381, false))) = some (r1, r2) := by rw [if_pos rfl] at H; exact H
                                    clear H
                                    have H := H1
                                    clear H1
                                    by_cases c29 : t381 ≥ 5
                                    · rw [if_pos c29] at H
                                      have c29b0 : decide (5 ≤ t381) = true := decide_eq_true c29
                                      clear c29
                                      simp only [Option.some.injEq, Prod.mk.injEq] at H
                                      obtain ⟨rfl, rfl⟩ := H
                                      go_wp2
                                      go_ret2
                                      exact ⟨by first | rfl | (simp; done) | (simp [*]; done), by repeat (first | exact Drawn0.refl _ | apply Drawn0.step)⟩
                                    · rw [if_neg c29] at H
                                      have c29b0 : decide (5 ≤ t381) = false := decide_eq_false c29
                                      clear c29
                                      simp only [Option.some.injEq, Prod.mk.injEq] at H
                                      obtain ⟨rfl, rfl⟩ := H
                                      go_wp2
                                      go_ret2
                                      exact ⟨by first | rfl | (simp; done) | (simp [*]; done), by repeat (first | exact Drawn0.refl _ | apply Drawn0.step)⟩
                                  · replace c28 := Bool.eq_false_iff.mpr c28
                                    subst c28
                                    have H1 : (some (t381, false)) = some (r1, r2) := by rw [if_neg (show ¬ (false = true) by decide)] at H; exact H
                                    clear H
                                    have H := H1
                                    clear H1
                                    simp only [Option.some.injEq, Prod.mk.injEq] at H
                                    obtain ⟨rfl, rfl⟩ := H
                                    go_wp2
                                    go_ret2
                                    exact ⟨by first | rfl | (simp; done) | (simp [*]; done), by repeat (first | exact Drawn0.refl _ | apply Drawn0.step)⟩
                                · replace c27 := Bool.eq_false_iff.mpr c27
                                  subst c27
                                  have H1 : (if a0 = 5 then (if t382 = true then (if t381 ≥ 0 then (some (wrap64 (5 + t381), decide ((l1.length : Int) ≥ (wrap64 (5 + t381))))) else (some (wrap64 (5 + t381), false))) else (some (wrap64 (5 + t381), false))) else (if a0 = 12 then (if t382 = true then (if t381 ≥ 1 then (some (wrap64 (16 + t381), decide ((l1.length : Int) ≥ (wrap64 (16 + t381))))) else (some (wrap64 (16 + t381), false))) else (some (wrap64 (16 + t381), false))) else (if a0 = 11 then ((spec_DocName.f kj23 l1).bind fun bt383 => (if 0 ≤ bt383.2.1 then (if bt383.2.1 ≤ (l1.length : Int) then ((spec_DocName.f kj23 (l1.drop (bt383.2.1 : Int).toNat)).bind fun bt387 => (if bt383.2.2 = true then (some (wrap64 (bt383.2.1 + bt387.2.1), bt387.2.2)) else (some (wrap64 (bt383.2.1 + bt387.2.1), false)))) else (none)) else (none))) else (some (0, false))))) = some (r1, r2) := by rw [if_neg (show ¬ (false = true) by decide)] at H; exact H
                                  clear H
                                  have H := H1
                                  clear H1
                                  by_cases c30 : a0 = 5
                                  · rw [if_pos c30] at H
                                    have c30b0 : (a0 == 5) = true := beq_iff_eq.mpr c30
                                    have c30b1 : (a0 != 5) = false := bne_eq_false_iff_eq.mpr c30
                                    clear c30
                                    by_cases c31 : t382 = true
                                    · subst c31
                                      have H1 : (if t381 ≥ 0 then (some (wrap64 (5 + t381), decide ((l1.length : Int) ≥ (wrap64 (5 + t381))))) else (some (wrap64 (5 + t381), false))) = some (r1, r2) := by rw [if_pos rfl] at H; exact H
                                      clear H
                                      have H := H1
                                      clear H1
                                      by_cases c32 : t381 ≥ 0
                                      · rw [if_pos c32] at H
                                        have c32b0 : decide (0 ≤ t381) = true := decide_eq_true c32
                                        clear c32
                                        simp only [Option.some.injEq, Prod.mk.injEq] at H
                                        obtain ⟨rfl, rfl⟩ := H
                                        go_wp2
                                        go_ret2
                                        exact ⟨by first | rfl | (simp; done) | (simp [*]; done), by repeat (first | exact Drawn0.refl _ | apply Drawn0.step)⟩
                                      · rw [if_neg c32] at H
                                        have c32b0 : decide (0 ≤ t381) = false := decide_eq_false c32
                                        clear c32
                                        simp only [Option.some.injEq, Prod.mk.injEq] at H
                                        obtain ⟨rfl, rfl⟩ := H
                                        go_wp2
                                        go_ret2
                                        exact ⟨by first | rfl | (simp; done) | (simp [*]; done), by repeat (first | exact Drawn0.refl _ | apply Drawn0.step)⟩
                                    · replace c31 := Bool.eq_false_iff.mpr c31
                                      subst c31
                                      have H1 : (some (wrap64 (5 + t381), false)) = some (r1, r2) := by rw [if_neg (show ¬ (false = true) by decide)] at H; exact H
                                      clear H
                                      have H := H1
                                      clear H1
                                      simp only [Option.some.injEq, Prod.mk.injEq] at H
                                      obtain ⟨rfl, rfl⟩ := H
                                      go_wp2
                                      go_ret2
                                      exact ⟨by first | rfl | (simp; done) | (simp [*]; done), by repeat (first | exact Drawn0.refl _ | apply Drawn0.step)⟩
                                  · rw [if_neg c30] at H
                                    have c30b0 : (a0 == 5) = false := beq_eq_false_iff_ne.mpr c30
                                    have c30b1 : (a0 != 5) = true := bne_iff_ne.mpr c30
                                    by_cases c33 : a0 = 12
                                    · rw [if_pos c33] at H
                                      have c33b0 : (a0 == 12) = true := beq_iff_eq.mpr c33
                                      have c33b1 : (a0 != 12) = false := bne_eq_false_iff_eq.mpr c33
                                      clear c33
                                      by_cases c34 : t382 = true
                                      · subst c34
                                        have H1 : (if t381 ≥ 1 then (some (wrap64 (16 + t381), decide ((l1.length : Int) ≥ (wrap64 (16 + t381))))) else (some (wrap64 (16 + t381), false))) = some (r1, r2) := by rw [if_pos rfl] at H; exact H
                                        clear H
                                        have H := H1
                                        clear H1
                                        by_cases c35 : t381 ≥ 1
                                        · rw [if_pos c35] at H
                                          have c35b0 : decide (1 ≤ t381) = true := decide_eq_true c35
                                          clear c35
                                          simp only [Option.some.injEq, Prod.mk.injEq] at H
                                          obtain ⟨rfl, rfl⟩ := H
                                          go_wp2
                                          go_ret2
                                          exact ⟨by first | rfl | (simp; done) | (simp [*]; done), by repeat (first | exact Drawn0.refl _ | apply Drawn0.step)⟩
                                        · rw [if_neg c35] at H
                                          have c35b0 : decide (1 ≤ t381) = false := decide_eq_false c35
                                          clear c35
                                          simp only [Option.some.injEq, Prod.mk.injEq] at H
                                          obtain ⟨rfl, rfl⟩ := H
                                          go_wp2
                                          go_ret2
                                          exact ⟨by first | rfl | (simp; done) | (simp [*]; done), by repeat (first | exact Drawn0.refl _ | apply Drawn0.step)⟩
                                      · replace c34 := Bool.eq_false_iff.mpr c34
                                        subst c34
                                        have H1 : (some (wrap64 (16 + t381), false)) = some (r1, r2) := by rw [if_neg (show ¬ (false = true) by decide)] at H; exact H
                                        clear H
                                        have H := H1
                                        clear H1
                                        simp only [Option.some.injEq, Prod.mk.injEq] at H
                                        obtain ⟨rfl, rfl⟩ := H
                                        go_wp2
                                        go_ret2
                                        exact ⟨by first | rfl | (simp; done) | (simp [*]; done), by repeat (first | exact Drawn0.refl _ | apply Drawn0.step)⟩
                                    · rw [if_neg c33] at H
                                      have c33b0 : (a0 == 12) = false := beq_eq_false_iff_ne.mpr c33
                                      have c33b1 : (a0 != 12) = true := bne_iff_ne.mpr c33
                                      by_cases c36 : a0 = 11
                                      · rw [if_pos c36] at H
                                        have c36b0 : (a0 == 11) = true := beq_iff_eq.mpr c36
                                        have c36b1 : (a0 != 11) = false := bne_eq_false_iff_eq.mpr c36
                                        clear c36
                                        replace H := Option.bind_eq_some_iff.mp H
                                        obtain ⟨⟨t383, t384, t385⟩, A370, H⟩ := H
                                        replace H : (if 0 ≤ t384 then (if t384 ≤ (l1.length : Int) then ((spec_DocName.f kj23 (l1.drop (t384 : Int).toNat)).bind fun bt387 => (if t385 = true then (some (wrap64 (t384 + bt387.2.1), bt387.2.2)) else (some (wrap64 (t384 + bt387.2.1), false)))) else (none)) else (none)) = some (r1, r2) := H
                                        have A37 := Aside0.mk A370
                                        clear A370
                                        by_cases c38 : 0 ≤ t384
                                        · rw [if_pos c38] at H
                                          have c38b0 := eq_true c38
                                          have c38b1 : decide (0 ≤ t384) = true := decide_eq_true c38
                                          clear c38
                                          by_cases c39 : t384 ≤ (l1.length : Int)
                                          · rw [if_pos c39] at H
                                            have c39b0 := eq_true c39
                                            have c39b1 : decide (t384 ≤ (l1.length : Int)) = true := decide_eq_true c39
                                            clear c39
                                            replace H := Option.bind_eq_some_iff.mp H
                                            obtain ⟨⟨t387, t388, t389⟩, A400, H⟩ := H
                                            replace H : (if t385 = true then (some (wrap64 (t384 + t388), t389)) else (some (wrap64 (t384 + t388), false))) = some (r1, r2) := H
                                            have A40 := Aside0.mk A400
                                            clear A400
                                            by_cases c41 : t385 = true
                                            · subst c41
                                              have H1 : (some (wrap64 (t384 + t388), t389)) = some (r1, r2) := by rw [if_pos rfl] at H; exact H
                                              clear H
                                              have H := H1
                                              clear H1
                                              simp only [Option.some.injEq, Prod.mk.injEq] at H
                                              obtain ⟨rfl, rfl⟩ := H
                                              go_wp2_with (first | ((with_reducible refine gate_callee (f := 109) rfl ?_); refine goesL_ (some 121) rfl rfl Tryz.func109 (by kernel_rfl) rfl #[.slice A1 l1.length c1] rfl (by (try simp only [List.map_toArray, List.map_cons, List.map_nil]); first | done | rfl | (simp only [List.length_drop, List.length_take]; rfl)) ?_; (with_reducible refine (spec_DocName.calls kj23 _ _ l1 t383 t384 true _ ?side1 ?side2 A37.out).mono ?_); (case side1 => repeat (first | exact HR1.out | (with_reducible refine Kd.C_alloc ?_ _) | (with_reducible refine Kd.C_drewN ?_ _) | (with_reducible refine Kd.C_drew ?_))); (case side2 => exact HC1.out); rintro e w' ⟨rfl, ⟨nd, rfl⟩⟩; refine ⟨_, rfl, ?_⟩; obtain ⟨i042, hi042, _, hsz42, _⟩ := info_parts info5; obtain ⟨A42, hcut42, hA42, hC42⟩ := print_drop_of (P := Tryz.prog) (Value.int .u8) 0 22 5 .i64 Tryz.underlying22 hi042 hsz42 A1 c1 l1 t384 (of_decide_eq_true (by first | (with_reducible assumption) | assumption)) (of_decide_eq_true (by first | (with_reducible assumption) | assumption)) HC1.out; have HR386 := Aside0.mk (Kd.C_of_reads (h1 := fun _ => rfl) (hA42 _ (Kd.reads_of_C HR1.out))); have HC386 := Aside0.mk hC42; clear hA42 hC42 hi042 hsz42) | ((with_reducible refine gate_callee (f := 109) rfl ?_); refine goesL_ (some 129) rfl rfl Tryz.func109 (by kernel_rfl) rfl #[.slice A42 (l1.drop (t384 : Int).toNat).length (c1 - t384.toNat)] rfl (by (try simp only [List.map_toArray, List.map_cons, List.map_nil]); first | done | (rw [show (l1.drop (t384 : Int).toNat).length = (l1.length - t384.toNat) from List.length_drop] <;> rfl) | rfl | (simp only [List.length_drop, List.length_take]; rfl)) ?_; (with_reducible refine (spec_DocName.calls kj23 _ _ (l1.drop (t384 : Int).toNat) t387 t388 t389 _ ?side1 ?side2 A40.out).mono ?_); (case side1 => repeat (first | exact HR386.out | (with_reducible refine Kd.C_alloc ?_ _) | (with_reducible refine Kd.C_drewN ?_ _) | (with_reducible refine Kd.C_drew ?_))); (case side2 => exact HC386.out); rintro e w' ⟨rfl, ⟨nd, rfl⟩⟩; refine ⟨_, rfl, ?_⟩))
                                              go_ret2
                                              exact ⟨by first | rfl | (simp; done) | (simp [*]; done), by repeat (first | exact Drawn0.refl _ | apply Drawn0.step)⟩
                                            · replace c41 := Bool.eq_false_iff.mpr c41
                                              subst c41
                                              have H1 : (some (wrap64 (t384 + t388), false)) = some (r1, r2) := by rw [if_neg (show ¬ (false = true) by decide)] at H; exact H
                                              clear H
                                              have H := H1
                                              clear H1
                                              simp only [Option.some.injEq, Prod.mk.injEq] at H
                                              obtain ⟨rfl, rfl⟩ := H
                                              go_wp2_with (first | ((with_reducible refine gate_callee (f := 109) rfl ?_); refine goesL_ (some 121) rfl rfl Tryz.func109 (by kernel_rfl) rfl #[.slice A1 l1.length c1] rfl (by (try simp only [List.map_toArray, List.map_cons, List.map_nil]); first | done | rfl | (simp only [List.length_drop, List.length_take]; rfl)) ?_; (with_reducible refine (spec_DocName.calls kj23 _ _ l1 t383 t384 false _ ?side1 ?side2 A37.out).mono ?_); (case side1 => repeat (first | exact HR1.out | (with_reducible refine Kd.C_alloc ?_ _) | (with_reducible refine Kd.C_drewN ?_ _) | (with_reducible refine Kd.C_drew ?_))); (case side2 => exact HC1.out); rintro e w' ⟨rfl, ⟨nd, rfl⟩⟩; refine ⟨_, rfl, ?_⟩; obtain ⟨i043, hi043, _, hsz43, _⟩ := info_parts info5; obtain ⟨A43, hcut43, hA43, hC43⟩ := print_drop_of (P := Tryz.prog) (Value.int .u8) 0 22 5 .i64 Tryz.underlying22 hi043 hsz43 A1 c1 l1 t384 (of_decide_eq_true (by first | (with_reducible assumption) | assumption)) (of_decide_eq_true (by first | (with_reducible assumption) | assumption)) HC1.out; have HR386 := Aside0.mk (Kd.C_of_reads (h1 := fun _ => rfl) (hA43 _ (Kd.reads_of_C HR1.out))); have HC386 := Aside0.mk hC43; clear hA43 hC43 hi043 hsz43) | ((with_reducible refine gate_callee (f := 109) rfl ?_); refine goesL_ (some 129) rfl rfl Tryz.func109 (by kernel_rfl) rfl #[.slice A43 (l1.drop (t384 : Int).toNat).length (c1 - t384.toNat)] rfl (by (try simp only [List.map_toArray, List.map_cons, List.map_nil]); first | done | (rw [show (l1.drop (t384 : Int).toNat).length = (l1.length - t384.toNat) from List.length_drop] <;> rfl) | rfl | (simp only [List.length_drop, List.length_take]; rfl)) ?_; (with_reducible refine (spec_DocName.calls kj23 _ _ (l1.drop (t384 : Int).toNat) t387 t388 t389 _ ?side1 ?side2 A40.out).mono ?_); (case side1 => repeat (first | exact HR386.out | (with_reducible refine Kd.C_alloc ?_ _) | (with_reducible refine Kd.C_drewN ?_ _) | (with_reducible refine Kd.C_drew ?_))); (case side2 => exact HC386.out); rintro e w' ⟨rfl, ⟨nd, rfl⟩⟩; refine ⟨_, rfl, ?_⟩))
                                              go_ret2
                                              exact ⟨by first | rfl | (simp; done) | (simp [*]; done), by repeat (first | exact Drawn0.refl _ | apply Drawn0.step)⟩
                                          · rw [if_neg c39] at H
                                            exact absurd H (by simp)
                                        · rw [if_neg c38] at H
                                          exact absurd H (by simp)
                                      · rw [if_neg c36] at H
                                        have c36b0 : (a0 == 11) = false := beq_eq_false_iff_ne.mpr c36
                                        have c36b1 : (a0 != 11) = true := bne_iff_ne.mpr c36
                                        simp only [Option.some.injEq, Prod.mk.injEq] at H
                                        obtain ⟨rfl, rfl⟩ := H
                                        go_wp2
                                        go_ret2
                                        exact ⟨by first | rfl | (simp; done) | (simp [*]; done), by repeat (first | exact Drawn0.refl _ | apply Drawn0.step)⟩

/-! ### spec_DocSpan: function 126 -/
mutual
def spec_DocSpan.j0 : Nat → Int → List Int → Int → Bool → Int → Bool → Option (Int × Bool)
  | 0, _, _, _, _, _, _ => none
  | k + 1, x0, x1, x6, x7, x13, x14 => if x14 = true then (if x7 = true then (if x6 ≥ 0 then (some (wrap64 (4 + x6), decide ((x1.length : Int) ≥ (wrap64 (4 + x6))))) else (some (wrap64 (4 + x6), false))) else (some (wrap64 (4 + x6), false))) else (if x13 = 3 then (spec_DocSpan.j1 k x0 x1 x6 x7 x13 (x13 == 3)) else (if x13 = 4 then (spec_DocSpan.j1 k x0 x1 x6 x7 x13 (x13 == 4)) else (spec_DocSpan.j1 k x0 x1 x6 x7 x13 (x13 == 15))))
def spec_DocSpan.j1 : Nat → Int → List Int → Int → Bool → Int → Bool → Option (Int × Bool)
  | 0, _, _, _, _, _, _ => none
  | k + 1, x0, x1, x6, x7, x13, x32 => if x32 = true then (if x7 = true then (if x6 ≥ 0 then (some (x6, decide ((x1.length : Int) ≥ x6))) else (some (x6, false))) else (some (x6, false))) else (if x13 = 12 then (if x7 = true then (if x6 ≥ 0 then (some (wrap64 (16 + x6), decide ((x1.length : Int) ≥ (wrap64 (16 + x6))))) else (some (wrap64 (16 + x6), false))) else (some (wrap64 (16 + x6), false))) else ((spec_DocLen.f k x0 x1).bind fun bt392 => (some (bt392.1, bt392.2))))
end
def spec_DocSpan.f (k : Nat) (a0 : Int) (l1 : List Int) : Option (Int × Bool) := (spec_DocNumber.f l1).bind fun bt390 => (if a0 = 2 then (spec_DocSpan.j0 k a0 l1 bt390.1 bt390.2 a0 (a0 == 2)) else (if a0 = 13 then (spec_DocSpan.j0 k a0 l1 bt390.1 bt390.2 a0 (a0 == 13)) else (spec_DocSpan.j0 k a0 l1 bt390.1 bt390.2 a0 (a0 == 14))))
theorem spec_DocSpan.mono_l : ∀ k, (∀ y0 y1 y2 y3 y4 y5, LeO (spec_DocSpan.j0 k y0 y1 y2 y3 y4 y5) (spec_DocSpan.j0 (k + 1) y0 y1 y2 y3 y4 y5)) ∧ (∀ y0 y1 y2 y3 y4 y5, LeO (spec_DocSpan.j1 k y0 y1 y2 y3 y4 y5) (spec_DocSpan.j1 (k + 1) y0 y1 y2 y3 y4 y5))
  | 0 => ⟨fun _ _ _ _ _ _ r h => by simp [spec_DocSpan.j0] at h, fun _ _ _ _ _ _ r h => by simp [spec_DocSpan.j1] at h⟩
  | k + 1 => by
    obtain ⟨ih0, ih1⟩ := spec_DocSpan.mono_l k
    refine ⟨?_, ?_⟩
    · intro y0 y1 y2 y3 y4 y5
      unfold spec_DocSpan.j0
      repeat' first
      | (with_reducible exact ih0 _ _ _ _ _ _)
      | (with_reducible exact ih1 _ _ _ _ _ _)
      | (with_reducible exact spec_DocLen.mono _ _ _)
      | (with_reducible exact LeO.refl _)
      | (with_reducible exact LeO.none _)
      | (with_reducible refine LeO.ite ?_ ?_)
      | (with_reducible refine LeO.bind ?_ (fun _ => ?_))
      | exact ih0 _ _ _ _ _ _
      | exact ih1 _ _ _ _ _ _
      | exact spec_DocLen.mono _ _ _
      | exact LeO.none _
      | refine LeO.ite ?_ ?_
      | refine LeO.bind ?_ (fun _ => ?_)
    · intro y0 y1 y2 y3 y4 y5
      unfold spec_DocSpan.j1
      repeat' first
      | (with_reducible exact ih0 _ _ _ _ _ _)
      | (with_reducible exact ih1 _ _ _ _ _ _)
      | (with_reducible exact spec_DocLen.mono _ _ _)
      | (with_reducible exact LeO.refl _)
      | (with_reducible exact LeO.none _)
      | (with_reducible refine LeO.ite ?_ ?_)
      | (with_reducible refine LeO.bind ?_ (fun _ => ?_))
      | exact ih0 _ _ _ _ _ _
      | exact ih1 _ _ _ _ _ _
      | exact spec_DocLen.mono _ _ _
      | exact LeO.none _
      | refine LeO.ite ?_ ?_
      | refine LeO.bind ?_ (fun _ => ?_)
theorem spec_DocSpan.mono : ∀ a0 a1 k, LeO (spec_DocSpan.f k a0 a1) (spec_DocSpan.f (k + 1) a0 a1) := by
  intro a0 a1 k
  obtain ⟨ih0, ih1⟩ := spec_DocSpan.mono_l k
  unfold spec_DocSpan.f
  repeat' first
      | (with_reducible exact ih0 _ _ _ _ _ _)
      | (with_reducible exact ih1 _ _ _ _ _ _)
      | (with_reducible exact spec_DocLen.mono _ _ _)
      | (with_reducible exact LeO.refl _)
      | (with_reducible exact LeO.none _)
      | (with_reducible refine LeO.ite ?_ ?_)
      | (with_reducible refine LeO.bind ?_ (fun _ => ?_))
      | exact ih0 _ _ _ _ _ _
      | exact ih1 _ _ _ _ _ _
      | exact spec_DocLen.mono _ _ _
      | exact LeO.none _
      | refine LeO.ite ?_ ?_
      | refine LeO.bind ?_ (fun _ => ?_)
set_option maxHeartbeats 8000000 in
set_option maxRecDepth 100000 in
theorem spec_DocSpan.calls (k : Nat) (a0 : Int) (A1 : Option Addr) (c1 : Nat) (l1 : List Int) (r1 : Int) (r2 : Bool) (w : World) (hr1 : Kd.C (Kd.int .u8) w A1 l1.length l1) (hc1 : l1.length ≤ c1) (h : spec_DocSpan.f k a0 l1 = some (r1, r2)) :
    Calls Tryz.prog 126 #[.int .i64 a0, .slice A1 l1.length c1] w fun e w' => e = .returned (.tuple #[.int .i64 r1, .bool r2]) ∧ Drawn0 w w' := by
  have HR1 := Aside0.mk hr1
  have HC1 := Aside0.mk hc1
  clear hr1 hc1
  have H : ((spec_DocNumber.f l1).bind fun bt390 => (if a0 = 2 then (spec_DocSpan.j0 k a0 l1 bt390.1 bt390.2 a0 (a0 == 2)) else (if a0 = 13 then (spec_DocSpan.j0 k a0 l1 bt390.1 bt390.2 a0 (a0 == 13)) else (spec_DocSpan.j0 k a0 l1 bt390.1 bt390.2 a0 (a0 == 14))))) = some (r1, r2) := h
  clear h
  replace H := Option.bind_eq_some_iff.mp H
  obtain ⟨⟨t390, t391⟩, A30, H⟩ := H
  replace H : (if a0 = 2 then (spec_DocSpan.j0 k a0 l1 t390 t391 a0 (a0 == 2)) else (if a0 = 13 then (spec_DocSpan.j0 k a0 l1 t390 t391 a0 (a0 == 13)) else (spec_DocSpan.j0 k a0 l1 t390 t391 a0 (a0 == 14)))) = some (r1, r2) := H
  have A3 := Aside0.mk A30
  clear A30
  have HC4 := Aside0.mk H
  clear H
  go_enter Tryz.func126, Tryz.ntmps126
  go_upto_if 14 with (first | ((with_reducible refine gate_callee (f := 43) rfl ?_); refine goesL_ (some 10) rfl rfl Tryz.func43 (by kernel_rfl) rfl #[.slice A1 l1.length c1] rfl (by (try simp only [List.map_toArray, List.map_cons, List.map_nil]); first | done | rfl | (simp only [List.length_drop, List.length_take]; rfl)) ?_; (with_reducible refine (spec_DocNumber.calls _ _ l1 t390 t391 _ ?side1 ?side2 A3.out).mono ?_); (case side1 => repeat (first | exact HR1.out | (with_reducible refine Kd.C_alloc ?_ _) | (with_reducible refine Kd.C_drewN ?_ _) | (with_reducible refine Kd.C_drew ?_))); (case side2 => exact HC1.out); rintro e w' ⟨rfl, ⟨nd, rfl⟩⟩; refine ⟨_, rfl, ?_⟩))
  (try simp only [Act.put, List.setIfInBounds_toArray, List.set_cons_zero, List.set_cons_succ])
  go_cut [14] (fun v14 wc => ∃ (kq : Nat) (x14_3 : Bool), v14 = .bool x14_3 ∧ Aside0 (spec_DocSpan.j0 kq a0 l1 t390 t391 a0 x14_3 = some (r1, r2)) ∧ Aside0 (kq ≤ k) ∧ Drawn0 w wc)
  case first =>
    have H := HC4.out
    clear HC4
    by_cases c5 : a0 = 2
    · rw [if_pos c5] at H
      have c5b0 : (a0 == 2) = true := beq_iff_eq.mpr c5
      have c5b1 : (a0 != 2) = false := bne_eq_false_iff_eq.mpr c5
      clear c5
      (first | rw [c5b0] | (simp only [i64_w, i32_w]; rw [c5b0]) | skip)
      have H' := Aside0.mk H
      clear H
      go_wp2
      go_meet
      case rel => exact ⟨_, ((a0 == 2)), (by first | rfl | (simp; done) | (simp [*]; done)), H', ⟨by first | omega | exact Nat.le_refl _⟩, by repeat (first | exact Drawn0.refl _ | apply Drawn0.step)⟩
    · rw [if_neg c5] at H
      have c5b0 : (a0 == 2) = false := beq_eq_false_iff_ne.mpr c5
      have c5b1 : (a0 != 2) = true := bne_iff_ne.mpr c5
      (first | rw [c5b0] | (simp only [i64_w, i32_w]; rw [c5b0]) | skip)
      by_cases c6 : a0 = 13
      · rw [if_pos c6] at H
        have c6b0 : (a0 == 13) = true := beq_iff_eq.mpr c6
        have c6b1 : (a0 != 13) = false := bne_eq_false_iff_eq.mpr c6
        clear c6
        have H' := Aside0.mk H
        clear H
        go_wp2
        go_meet
        case rel => exact ⟨_, ((a0 == 13)), (by first | rfl | (simp; done) | (simp [*]; done)), H', ⟨by first | omega | exact Nat.le_refl _⟩, by repeat (first | exact Drawn0.refl _ | apply Drawn0.step)⟩
      · rw [if_neg c6] at H
        have c6b0 : (a0 == 13) = false := beq_eq_false_iff_ne.mpr c6
        have c6b1 : (a0 != 13) = true := bne_iff_ne.mpr c6
        have H' := Aside0.mk H
        clear H
        go_wp2
        go_meet
        case rel => exact ⟨_, ((a0 == 14)), (by first | rfl | (simp; done) | (simp [*]; done)), H', ⟨by first | omega | exact Nat.le_refl _⟩, by repeat (first | exact Drawn0.refl _ | apply Drawn0.step)⟩
  case rest =>
    clear HC4
    try clear c1
    try clear p2
    try clear c4
    try clear c5
    try clear c5b0
    try clear c5b1
    try clear c6
    try clear c6b0
    try clear c6b1
    obtain ⟨kq, x14_3, rfl, HA, HJ3, ⟨mc3, rfl⟩⟩ := hcut
    cases kq with
    | zero => exact absurd HA.out (by simp [spec_DocSpan.j0])
    | succ kj3 =>
      have H := HA.out
      clear HA
      simp only [spec_DocSpan.j0] at H
      by_cases c7 : x14_3 = true
      · subst c7
        have H1 : (if t391 = true then (if t390 ≥ 0 then (some (wrap64 (4 + t390), decide ((l1.length : Int) ≥ (wrap64 (4 + t390))))) else (some (wrap64 (4 + t390), false))) else (some (wrap64 (4 + t390), false))) = some (r1, r2) := by rw [if_pos rfl] at H; exact H
        clear H
        have H := H1
        clear H1
        by_cases c8 : t391 = true
        · subst c8
          have H1 : (if t390 ≥ 0 then (some (wrap64 (4 + t390), decide ((l1.length : Int) ≥ (wrap64 (4 + t390))))) else (some (wrap64 (4 + t390), false))) = some (r1, r2) := by rw [if_pos rfl] at H; exact H
          clear H
          have H := H1
          clear H1
          by_cases c9 : t390 ≥ 0
          · rw [if_pos c9] at H
            have c9b0 : decide (0 ≤ t390) = true := decide_eq_true c9
            clear c9
            simp only [Option.some.injEq, Prod.mk.injEq] at H
            obtain ⟨rfl, rfl⟩ := H
            go_wp2
            go_ret2
            exact ⟨by first | rfl | (simp; done) | (simp [*]; done), by repeat (first | exact Drawn0.refl _ | apply Drawn0.step)⟩
          · rw [if_neg c9] at H
            have c9b0 : decide (0 ≤ t390) = false := decide_eq_false c9
            clear c9
            simp only [Option.some.injEq, Prod.mk.injEq] at H
            obtain ⟨rfl, rfl⟩ := H
            go_wp2
            go_ret2
            exact ⟨by first | rfl | (simp; done) | (simp [*]; done), by repeat (first | exact Drawn0.refl _ | apply Drawn0.step)⟩
        · replace c8 := Bool.eq_false_iff.mpr c8
          subst c8
          have H1 : (some (wrap64 (4 + t390), false)) = some (r1, r2) := by rw [if_neg (show ¬ (false = true) by decide)] at H; exact H
          clear H
          have H := H1
          clear H1
          simp only [Option.some.injEq, Prod.mk.injEq] at H
          obtain ⟨rfl, rfl⟩ := H
          go_wp2
          go_ret2
          exact ⟨by first | rfl | (simp; done) | (simp [*]; done), by repeat (first | exact Drawn0.refl _ | apply Drawn0.step)⟩
      · replace c7 := Bool.eq_false_iff.mpr c7
        subst c7
        have H1 : (if a0 = 3 then (spec_DocSpan.j1 kj3 a0 l1 t390 t391 a0 (a0 == 3)) else (if a0 = 4 then (spec_DocSpan.j1 kj3 a0 l1 t390 t391 a0 (a0 == 4)) else (spec_DocSpan.j1 kj3 a0 l1 t390 t391 a0 (a0 == 15)))) = some (r1, r2) := by rw [if_neg (show ¬ (false = true) by decide)] at H; exact H
        clear H
        have H := H1
        clear H1
        have HC10 := Aside0.mk H
        clear H
        go_upto_if 32 with (fail)
        go_cut [32] (fun v32 wc => ∃ (kq : Nat) (x32_9 : Bool), v32 = .bool x32_9 ∧ Aside0 (spec_DocSpan.j1 kq a0 l1 t390 t391 a0 x32_9 = some (r1, r2)) ∧ Aside0 (kq ≤ kj3) ∧ Drawn0 w wc)
        case first =>
          have H := HC10.out
          clear HC10
          by_cases c11 : a0 = 3
          · rw [if_pos c11] at H
            have c11b0 : (a0 == 3) = true := beq_iff_eq.mpr c11
            have c11b1 : (a0 != 3) = false := bne_eq_false_iff_eq.mpr c11
            clear c11
            (first | rw [c11b0] | (simp only [i64_w, i32_w]; rw [c11b0]) | skip)
            have H' := Aside0.mk H
            clear H
            go_wp2
            go_meet
            case rel => exact ⟨_, ((a0 == 3)), (by first | rfl | (simp; done) | (simp [*]; done)), H', ⟨by have := HJ3.out; first | omega | exact Nat.le_refl _⟩, by repeat (first | exact Drawn0.refl _ | apply Drawn0.step)⟩
          · rw [if_neg c11] at H
            have c11b0 : (a0 == 3) = false := beq_eq_false_iff_ne.mpr c11
            have c11b1 : (a0 != 3) = true := bne_iff_ne.mpr c11
            (first | rw [c11b0] | (simp only [i64_w, i32_w]; rw [c11b0]) | skip)
            by_cases c12 : a0 = 4
            · rw [if_pos c12] at H
              have c12b0 : (a0 == 4) = true := beq_iff_eq.mpr c12
              have c12b1 : (a0 != 4) = false := bne_eq_false_iff_eq.mpr c12
              clear c12
              have H' := Aside0.mk H
              clear H
              go_wp2
              go_meet
              case rel => exact ⟨_, ((a0 == 4)), (by first | rfl | (simp; done) | (simp [*]; done)), H', ⟨by have := HJ3.out; first | omega | exact Nat.le_refl _⟩, by repeat (first | exact Drawn0.refl _ | apply Drawn0.step)⟩
            · rw [if_neg c12] at H
              have c12b0 : (a0 == 4) = false := beq_eq_false_iff_ne.mpr c12
              have c12b1 : (a0 != 4) = true := bne_iff_ne.mpr c12
              have H' := Aside0.mk H
              clear H
              go_wp2
              go_meet
              case rel => exact ⟨_, ((a0 == 15)), (by first | rfl | (simp; done) | (simp [*]; done)), H', ⟨by have := HJ3.out; first | omega | exact Nat.le_refl _⟩, by repeat (first | exact Drawn0.refl _ | apply Drawn0.step)⟩
        case rest =>
          clear HC10
          try clear c1
          try clear p2
          try clear c3
          try clear c4
          try clear c5
          try clear c5b0
          try clear c5b1
          try clear c6
          try clear c6b0
          try clear c6b1
          try clear p6
          try clear c7
          try clear c8
          try clear c9
          try clear c9b0
          try clear c11
          try clear c11b0
          try clear c11b1
          try clear c12
          try clear c12b0
          try clear c12b1
          try clear p2
          obtain ⟨kq, x32_9, rfl, HA, HJ9, ⟨mc9, rfl⟩⟩ := hcut
          cases kq with
          | zero => exact absurd HA.out (by simp [spec_DocSpan.j1])
          | succ kj9 =>
            have H := HA.out
            clear HA
            simp only [spec_DocSpan.j1] at H
            by_cases c13 : x32_9 = true
            · subst c13
              have H1 : (if t391 = true then (if t390 ≥ 0 then (some (t390, decide ((l1.length : Int) ≥ t390))) else (some (t390, false))) else (some (t390, false))) = some (r1, r2) := by rw [if_pos rfl] at H; exact H
              clear H
              have H := H1
              clear H1
              by_cases c14 : t391 = true
              · subst c14
                have H1 : (if t390 ≥ 0 then (some (t390, decide ((l1.length : Int) ≥ t390))) else (some (t390, false))) = some (r1, r2) := by rw [if_pos rfl] at H; exact H
                clear H
                have H := H1
                clear H1
                by_cases c15 : t390 ≥ 0
                · rw [if_pos c15] at H
                  have c15b0 : decide (0 ≤ t390) = true := decide_eq_true c15
                  clear c15
                  simp only [Option.some.injEq, Prod.mk.injEq] at H
                  obtain ⟨rfl, rfl⟩ := H
                  go_wp2
                  go_ret2
                  exact ⟨by first | rfl | (simp; done) | (simp [*]; done), by repeat (first | exact Drawn0.refl _ | apply Drawn0.step)⟩
                · rw [if_neg c15] at H
                  have c15b0 : decide (0 ≤ t390) = false := decide_eq_false c15
                  clear c15
                  simp only [Option.some.injEq, Prod.mk.injEq] at H
                  obtain ⟨rfl, rfl⟩ := H
                  go_wp2
                  go_ret2
                  exact ⟨by first | rfl | (simp; done) | (simp [*]; done), by repeat (first | exact Drawn0.refl _ | apply Drawn0.step)⟩
              · replace c14 := Bool.eq_false_iff.mpr c14
                subst c14
                have H1 : (some (t390, false)) = some (r1, r2) := by rw [if_neg (show ¬ (false = true) by decide)] at H; exact H
                clear H
                have H := H1
                clear H1
                simp only [Option.some.injEq, Prod.mk.injEq] at H
                obtain ⟨rfl, rfl⟩ := H
                go_wp2
                go_ret2
                exact ⟨by first | rfl | (simp; done) | (simp [*]; done), by repeat (first | exact Drawn0.refl _ | apply Drawn0.step)⟩
            · replace c13 := Bool.eq_false_iff.mpr c13
              subst c13
              have H1 : (if a0 = 12 then (if t391 = true then (if t390 ≥ 0 then (some (wrap64 (16 + t390), decide ((l1.length : Int) ≥ (wrap64 (16 + t390))))) else (some (wrap64 (16 + t390), false))) else (some (wrap64 (16 + t390), false))) else ((spec_DocLen.f kj9 a0 l1).bind fun bt392 => (some (bt392.1, bt392.2)))) = some (r1, r2) := by rw [if_neg (show ¬ (false = true) by decide)] at H; exact H
              clear H
              have H := H1
              clear H1
              by_cases c16 : a0 = 12
              · rw [if_pos c16] at H
                have c16b0 : (a0 == 12) = true := beq_iff_eq.mpr c16
                have c16b1 : (a0 != 12) = false := bne_eq_false_iff_eq.mpr c16
                clear c16
                by_cases c17 : t391 = true
                · subst c17
                  have H1 : (if t390 ≥ 0 then (some (wrap64 (16 + t390), decide ((l1.length : Int) ≥ (wrap64 (16 + t390))))) else (some (wrap64 (16 + t390), false))) = some (r1, r2) := by rw [if_pos rfl] at H; exact H
                  clear H
                  have H := H1
                  clear H1
                  by_cases c18 : t390 ≥ 0
                  · rw [if_pos c18] at H
                    have c18b0 : decide (0 ≤ t390) = true := decide_eq_true c18
                    clear c18
                    simp only [Option.some.injEq, Prod.mk.injEq] at H
                    obtain ⟨rfl, rfl⟩ := H
                    go_wp2
                    go_ret2
                    exact ⟨by first | rfl | (simp; done) | (simp [*]; done), by repeat (first | exact Drawn0.refl _ | apply Drawn0.step)⟩
                  · rw [if_neg c18] at H
                    have c18b0 : decide (0 ≤ t390) = false := decide_eq_false c18
                    clear c18
                    simp only [Option.some.injEq, Prod.mk.injEq] at H
                    obtain ⟨rfl, rfl⟩ := H
                    go_wp2
                    go_ret2
                    exact ⟨by first | rfl | (simp; done) | (simp [*]; done), by repeat (first | exact Drawn0.refl _ | apply Drawn0.step)⟩
                · replace c17 := Bool.eq_false_iff.mpr c17
                  subst c17
                  have H1 : (some (wrap64 (16 + t390), false)) = some (r1, r2) := by rw [if_neg (show ¬ (false = true) by decide)] at H; exact H
                  clear H
                  have H := H1
                  clear H1
                  simp only [Option.some.injEq, Prod.mk.injEq] at H
                  obtain ⟨rfl, rfl⟩ := H
                  go_wp2
                  go_ret2
                  exact ⟨by first | rfl | (simp; done) | (simp [*]; done), by repeat (first | exact Drawn0.refl _ | apply Drawn0.step)⟩
              · rw [if_neg c16] at H
                have c16b0 : (a0 == 12) = false := beq_eq_false_iff_ne.mpr c16
                have c16b1 : (a0 != 12) = true := bne_iff_ne.mpr c16
                replace H := Option.bind_eq_some_iff.mp H
                obtain ⟨⟨t392, t393⟩, A190, H⟩ := H
                replace H : (some (t392, t393)) = some (r1, r2) := H
                have A19 := Aside0.mk A190
                clear A190
                simp only [Option.some.injEq, Prod.mk.injEq] at H
                obtain ⟨rfl, rfl⟩ := H
                go_wp2_with (first | ((with_reducible refine gate_callee (f := 42) rfl ?_); refine goesL_ (some 66) rfl rfl Tryz.func42 (by kernel_rfl) rfl #[.int .i64 a0, .slice A1 l1.length c1] rfl (by (try simp only [List.map_toArray, List.map_cons, List.map_nil]); first | done | rfl | (simp only [List.length_drop, List.length_take]; rfl)) ?_; (with_reducible refine (spec_DocLen.calls kj9 a0 _ _ l1 t392 t393 _ ?side1 ?side2 A19.out).mono ?_); (case side1 => repeat (first | exact HR1.out | (with_reducible refine Kd.C_alloc ?_ _) | (with_reducible refine Kd.C_drewN ?_ _) | (with_reducible refine Kd.C_drew ?_))); (case side2 => exact HC1.out); rintro e w' ⟨rfl, ⟨nd, rfl⟩⟩; refine ⟨_, rfl, ?_⟩))
                go_ret2
                exact ⟨by first | rfl | (simp; done) | (simp [*]; done), by repeat (first | exact Drawn0.refl _ | apply Drawn0.step)⟩



end Go.Proofs.YtbpopaegfhcdpaaGreatDoor.PFnDocAnyLookup


/- As print.sh printed it (DocAnyRead), these functions alone: spec_docLong. -/
namespace Go.Proofs.YtbpopaegfhcdpaaGreatDoor.PFnDocAnyLookup
open Go.RowKit Go.Proofs.YtbpopaegfhcdpaaGreatDoorW.PrintWords Go.Proofs.YtbpopaegfhcdpaaGreatDoorW.PrintLast Go.Proofs.YtbpopaegfhcdpaaGreatDoorW.PrintMore
attribute [local go_sem] max2_int min2_int max_two min_two max_three min_three max_four min_four   -- for this text's walks alone
set_option linter.unusedVariables false
set_option linter.unusedSimpArgs false


/-! ### spec_docLong: function 163 -/
def spec_docLong.l0 : Nat → List Int → Int → Int → Option (Int)
  | 0, _, _, _ => none
  | k + 1, x0, x3, x4 => if x4 ≥ 0 then (if 0 ≤ x4 then (if x4 < (x0.length : Int) then (spec_docLong.l0 k x0 (Go.bits .or .u64 (IntKind.u64.wrap (x3 * 256)) (IntKind.u64.wrap (rd x0 x4))) (wrap64 (x4 - 1))) else (none)) else (none)) else (some x3)
def spec_docLong.f (k : Nat) (l0 : List Int) : Option (Int) := spec_docLong.l0 k l0 0 7
theorem spec_docLong.mono_l : ∀ k, (∀ y0 y1 y2, LeO (spec_docLong.l0 k y0 y1 y2) (spec_docLong.l0 (k + 1) y0 y1 y2))
  | 0 => fun _ _ _ r h => by simp [spec_docLong.l0] at h
  | k + 1 => by
    have ih0 := spec_docLong.mono_l k
    · intro y0 y1 y2
      unfold spec_docLong.l0
      repeat' first
      | (with_reducible exact ih0 _ _ _)
      | (with_reducible exact LeO.refl _)
      | (with_reducible exact LeO.none _)
      | (with_reducible refine LeO.ite ?_ ?_)
      | (with_reducible refine LeO.bind ?_ (fun _ => ?_))
      | exact ih0 _ _ _
      | exact LeO.none _
      | refine LeO.ite ?_ ?_
      | refine LeO.bind ?_ (fun _ => ?_)
theorem spec_docLong.mono : ∀ a0 k, LeO (spec_docLong.f k a0) (spec_docLong.f (k + 1) a0) := by
  intro a0 k
  have ih0 := spec_docLong.mono_l k
  unfold spec_docLong.f
  repeat' first
      | (with_reducible exact ih0 _ _ _)
      | (with_reducible exact LeO.refl _)
      | (with_reducible exact LeO.none _)
      | (with_reducible refine LeO.ite ?_ ?_)
      | (with_reducible refine LeO.bind ?_ (fun _ => ?_))
      | exact ih0 _ _ _
      | exact LeO.none _
      | refine LeO.ite ?_ ?_
      | refine LeO.bind ?_ (fun _ => ?_)
set_option maxHeartbeats 8000000 in
set_option maxRecDepth 100000 in
theorem spec_docLong.calls (k : Nat) (A0 : Option Addr) (c0 : Nat) (l0 : List Int) (r : Int) (w : World) (hr0 : Kd.C (Kd.int .u8) w A0 l0.length l0) (hc0 : l0.length ≤ c0) (h : spec_docLong.f k l0 = some r) :
    Calls Tryz.prog 163 #[.slice A0 l0.length c0] w fun e w' => e = .returned (.int .u64 r) ∧ Drawn0 w w' := by
  have HR0 := Aside0.mk hr0
  have HC0 := Aside0.mk hc0
  clear hr0 hc0
  have H : (spec_docLong.l0 k l0 0 7) = some r := h
  clear h
  have H' := Aside0.mk H
  clear H
  go_enter Tryz.func163, Tryz.ntmps163
  go_wp2
  go_loopg [3, 4] k (fun kq v3 v4 w' => ∃ (x3_1 : Int) (x4_1 : Int), v3 = .int .u64 x3_1 ∧ v4 = .int .i64 x4_1 ∧ Aside0 (spec_docLong.l0 kq l0 x3_1 x4_1 = some r) ∧ Aside0 (kq ≤ k) ∧ Drawn0 w w')
  case atStart => exact ⟨(0), (7), (by first | rfl | (simp; done) | (simp [*]; done)), (by first | rfl | (simp; done) | (simp [*]; done)), H', ⟨Nat.le_refl _⟩, by repeat (first | exact Drawn0.refl _ | apply Drawn0.step)⟩
  case round =>
    clear H'
    try clear c1
    obtain ⟨x3_1, x4_1, rfl, rfl, HA, HK1, ⟨m1, rfl⟩⟩ := hrel
    cases gk with
    | zero => exact absurd HA.out (by simp [spec_docLong.l0])
    | succ k1 =>
      have H := HA.out
      clear HA
      simp only [spec_docLong.l0] at H
      by_cases c2 : x4_1 ≥ 0
      · rw [if_pos c2] at H
        have c2b0 : decide (0 ≤ x4_1) = true := decide_eq_true c2
        clear c2
        by_cases c3 : 0 ≤ x4_1
        · rw [if_pos c3] at H
          have c3b0 : decide (0 ≤ x4_1) = true := decide_eq_true c3
          clear c3
          by_cases c4 : x4_1 < (l0.length : Int)
          · rw [if_pos c4] at H
            have c4b0 : decide (x4_1 < (l0.length : Int)) = true := decide_eq_true c4
            clear c4
            have H' := Aside0.mk H
            clear H
            have p122 : 0 ≤ (x4_1 : Int) := of_decide_eq_true (by first | (with_reducible assumption) | assumption)
            have q122 : x4_1 < (l0.length : Int) := of_decide_eq_true (by first | (with_reducible assumption) | assumption)
            obtain ⟨ad122, e122, hx122_0⟩ := Kd.at_int HR0.out x4_1 p122 q122
            cases e122
            replace p122 := eq_true p122
            replace q122 := eq_true q122
            go_wp2
            go_roundg k1
            case measure => have := HK1.out; omega
            case rel => exact ⟨(Go.bits .or .u64 (IntKind.u64.wrap (x3_1 * 256)) (IntKind.u64.wrap (rd l0 x4_1))), (wrap64 (x4_1 - 1)), (by first | rfl | (simp; done) | (simp [*]; done)), (by first | rfl | (simp; done) | (simp [*]; done)), H', ⟨by have := HK1.out; omega⟩, by repeat (first | exact Drawn0.refl _ | apply Drawn0.step)⟩
          · rw [if_neg c4] at H
            exact absurd H (by simp)
        · rw [if_neg c3] at H
          exact absurd H (by simp)
      · rw [if_neg c2] at H
        have c2b0 : decide (0 ≤ x4_1) = false := decide_eq_false c2
        clear c2
        obtain rfl := Option.some.inj H
        go_wp2
        go_ret
        exact ⟨by first | rfl | (simp; done) | (simp [*]; done), by repeat (first | exact Drawn0.refl _ | apply Drawn0.step)⟩



end Go.Proofs.YtbpopaegfhcdpaaGreatDoor.PFnDocAnyLookup


