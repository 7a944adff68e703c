/- Contracts of DecIs, DecBits. -/
import Derived.Test.YtjjfdamlicoeeaaDoorDfa
import Derived.Outline
set_option linter.unusedVariables false
set_option linter.unusedSimpArgs false
set_option maxRecDepth 100000
namespace Go.Proofs.YtjjfdamlicoeeaaDoor.X
open Go.RowKit
def AllDig (s : ByteArray) : Prop := ∀ j, (h : j < s.size) → 48 ≤ (s[j].toNat : Int) ∧ (s[j].toNat : Int) ≤ 57
def IsZ (s : ByteArray) (z : Bool) : Prop := z = true → s.size ≤ 34
def RetZ (w : World) (s : ByteArray) (e : Ending) (w' : World) : Prop := ∃ z, e = .returned (.bool z) ∧ IsZ s z ∧ Below w.heap.size w w'
theorem decIs_fin (ng : Bool) (s : ByteArray) (x : Int) (w : World) (h1 : 1 ≤ s.size) (h2 : s.size ≤ 50) (hx : -7000 ≤ x) (hx2 : x ≤ 12000) (hd : AllDig s) :
    Calls Tryd.prog 25 #[.agg #[.int .i64 0, .bool ng, .string s, .int .i64 x]] w (RetZ w s) := by
  have HD := Lib.hid hd
  have h0 := hd 0 (by omega)
  clear hd
  by_cases h34 : s.size ≤ 34
  · have d1 : decide ((s.size : Int) < 1) = false := by simp; omega
    have d2 : decide ((34 : Int) < s.size) = false := by simp; omega
    go_enter Tryd.func25, Tryd.ntmps25
    go_wp2_with fail
    all_goals first
      | (go_ret; exact ⟨false, rfl, (fun h => nomatch h), balloc (Below.refl _ _) (Nat.le_refl _) _⟩)
      | skip
    all_goals
      go_loop [3] (fun i => ∃ j : Nat, j ≤ s.size ∧ i = .int .i64 j) (fun i => s.size - (intOf i).toNat)
      case atStart => exact ⟨0, Nat.zero_le _, rfl⟩
      case round =>
        obtain ⟨j, hj, rfl⟩ := hrel
        by_cases hlt : j < s.size
        · have hd := HD.out j hlt
          have e1 : decide ((s[j].toNat : Int) < 48) = false := by simp; omega
          have e2 : decide ((57 : Int) < (s[j].toNat : Int)) = false := by simp; omega
          go_wp2_with fail
          go_round
          case rel => exact ⟨j + 1, by omega, by go_num⟩
          case measure => simp [intOf]; omega
        · obtain rfl : j = s.size := by omega
          go_wp2_with fail
          go_ret
          exact ⟨true, rfl, fun _ => h34, balloc (Below.refl _ _) (Nat.le_refl _) _⟩
  · have d1 : decide ((s.size : Int) < 1) = false := by simp; omega
    have d2 : decide ((34 : Int) < s.size) = true := by simp; omega
    go_enter Tryd.func25, Tryd.ntmps25
    go_wp2_with fail
    all_goals go_ret
    all_goals exact ⟨false, rfl, (fun h => nomatch h), balloc (Below.refl _ _) (Nat.le_refl _) _⟩
theorem decIs_oth (k : Int) (hk : k = 1 ∨ k = 2) (ng : Bool) (s : ByteArray) (x : Int) (w : World) :
    Calls Tryd.prog 25 #[.agg #[.int .i64 k, .bool ng, .string s, .int .i64 x]] w fun e w' => e = .returned (.bool true) ∧ Below w.heap.size w w' := by
  rcases hk with rfl | rfl
  all_goals
    go_enter Tryd.func25, Tryd.ntmps25
    go_wp2_with fail
    go_ret
    exact ⟨rfl, balloc (Below.refl _ _) (Nat.le_refl _) _⟩
theorem decBits_oth (k : Int) (hk : k = 1 ∨ k = 2) (ng : Bool) (s : ByteArray) (x : Int) (w : World) :
    Calls Tryd.prog 26 #[.agg #[.int .i64 k, .bool ng, .string s, .int .i64 x]] w fun e w' => e = .returned (.tuple #[.int .u64 (if k = 2 then 8935141660703064064 else if ng = true then 17870283321406128128 else 8646911284551352320), .int .u64 0]) ∧ Below w.heap.size w w' := by
  have o1 : bits .or .u64 9223372036854775808 8646911284551352320 = 17870283321406128128 := by decide +kernel
  have o2 : bits .or .u64 0 8646911284551352320 = 8646911284551352320 := by decide +kernel
  rcases hk with rfl | rfl
  all_goals cases ng
  all_goals
    go_enter Tryd.func26, Tryd.ntmps26
    go_wp2_with fail
    go_ret2
    exact ⟨by first | rfl | simp, balloc (Below.refl _ _) (Nat.le_refl _) _⟩
def BLoop (w0 : World) (B : Nat) (n : Nat) (a b i : Value) (wr : World) : Prop := ∃ (x y : Int) (j : Nat), j ≤ n ∧ i = .int .i64 j ∧ a = .int .u64 x ∧ b = .int .u64 y ∧ (0 ≤ x ∧ x ≤ 18446744073709551615) ∧ (0 ≤ y ∧ y ≤ 18446744073709551615) ∧ Below B w0 wr
theorem decBits_fin (ng : Bool) (s : ByteArray) (x : Int) (w : World) (h2 : s.size ≤ 50) (hx : -6176 ≤ x) (hx2 : x ≤ 12000) (hd : AllDig s) :
    Calls Tryd.prog 26 #[.agg #[.int .i64 0, .bool ng, .string s, .int .i64 x]] w fun e w' => ∃ p q, e = .returned (.tuple #[.int .u64 p, .int .u64 q]) ∧ Below w.heap.size w w' := by
  have HD := Lib.hid hd
  clear hd
  cases ng
  all_goals
    go_enter Tryd.func26, Tryd.ntmps26
    go_wp2_with fail
    go_loopw [5, 6, 7] (fun a b i wr => BLoop (w.alloc (.cells #[.int .i64 0, .bool _, .string s, .int .i64 x] 25)) (w.heap.size + 1) s.size a b i wr) (fun a b i _ => s.size - (intOf i).toNat)
    case atStart => exact ⟨0, 0, 0, Nat.zero_le _, rfl, rfl, rfl, by omega, by omega, Below.refl _ _⟩
    case round =>
      obtain ⟨X, Y, j, hj, rfl, rfl, rfl, bX, bY, hb⟩ := hrel
      have k1 := hb.cell (p := ⟨w.heap.size, 1, none⟩) (by simp)
      have k2 := hb.cell (p := ⟨w.heap.size, 2, none⟩) (by simp)
      have k3 := hb.cell (p := ⟨w.heap.size, 3, none⟩) (by simp)
      simp [go_sem] at k1 k2 k3
      by_cases hlt : j < s.size
      · have hd := HD.out j hlt
        have hw8 : IntKind.u8.wrap ((s[j].toNat : Int) - 48) = (s[j].toNat : Int) - 48 := IntWalk.u8_in _ (by omega)
        have HT := Lib.hid (fun wx => decTimes X Y ((s[j].toNat : Int) - 48) wx bX.1 bX.2 bY.1 bY.2 (by omega) (by omega))
        have HB := Lib.hid hb
        have hz := hb.size
        simp only [World.size_alloc] at hz
        clear hb
        go_wp2_with fail
        refine (HT.out _).mono ?_
        rintro e w2 ⟨X2, Y2, z2, rfl, b1, b2, hb2⟩
        have HB2 := Lib.hid (bstep HB.out hz hb2)
        clear hb2
        go_wp2_with fail
        go_roundw
        case rel => exact ⟨X2, Y2, j + 1, by omega, by go_num, rfl, rfl, b1, b2, HB2.out⟩
        case measure => simp [intOf]; omega
      · obtain rfl : j = s.size := by omega
        have hend := Lib.hid (boxb hb)
        clear hb
        go_wp2_with fail
        go_ret2
        exact ⟨_, _, rfl, hend.out⟩
end Go.Proofs.YtjjfdamlicoeeaaDoor.X
