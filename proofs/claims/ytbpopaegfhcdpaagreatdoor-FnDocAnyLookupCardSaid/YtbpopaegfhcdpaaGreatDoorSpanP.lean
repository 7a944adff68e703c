/- How many bytes a value takes by its numbers: plain law. -/
import Derived.Test.YtbpopaegfhcdpaaGreatDoorRv
set_option linter.unusedVariables false
set_option linter.unusedSimpArgs false
set_option maxRecDepth 100000
namespace Go.Proofs.YtbpopaegfhcdpaaGreatDoor.X
open Go.RowKit
namespace Sp
/-- The number in the first four bytes, and whether there are so many. -/
def numOf : List UInt8 → Int × Bool
  | b0 :: b1 :: b2 :: b3 :: _ => (wrap32 (leI [b0, b1, b2, b3]), true)
  | _ => (0, false)
theorem num_short (l : List UInt8) (h : l.length < 4) : numOf l = (0, false) := by
  match l, h with
  | [], _ | [_], _ | [_, _], _ | [_, _, _], _ => rfl
theorem num_long (l : List UInt8) (h : (numOf l).2 = true) : 4 ≤ l.length := by
  rcases Nat.lt_or_ge l.length 4 with h4 | h4
  · rw [num_short l h4] at h; cases h
  · exact h4
theorem num_is (l : List UInt8) (h : 4 ≤ l.length) : (numOf l).2 = true := by
  match l, h with
  | b0 :: b1 :: b2 :: b3 :: r, _ => rfl
theorem num_bd (l : List UInt8) : -2147483648 ≤ (numOf l).1 ∧ (numOf l).1 ≤ 2147483647 := by
  unfold numOf
  split
  · exact wrap32_bd _
  · simp
theorem read_num (l : List UInt8) : readLen l = ((numOf l).1, (numOf l).2 && decide (0 ≤ (numOf l).1)) := by
  unfold readLen numOf
  split <;> simp
/-- A name's end, and whether there is one. -/
def nmOf (l : List UInt8) : Int × Bool := if Lib.indexByte l 0 < 0 then (0, false) else (Lib.indexByte l 0 + 1, true)
theorem wrap_sum (n c len : Int) (h0 : 0 ≤ n) (h1 : n ≤ 2147483647) (c0 : 0 ≤ c) (c1 : c ≤ 16) (hl : len ≤ 5000) : ((0 ≤ wrap32 (n + c) ∧ wrap32 (n + c) ≤ len) ↔ n + c ≤ len) ∧ (n + c ≤ len → wrap32 (n + c) = n + c) := by
  unfold wrap32; omega
theorem val_num (l : List UInt8) (c : Int) (c0 : 0 ≤ c) (c1 : c ≤ 16) (hl : l.length ≤ 5000) (k : Int) (hk : valBase k l = (wrap32 ((readLen l).1 + c), (readLen l).2)) :
    valIs k l = ((numOf l).2 && (decide (0 ≤ (numOf l).1) && decide ((numOf l).1 + c ≤ l.length))) ∧ (valIs k l = true → (valLen k l).1 = (numOf l).1 + c) := by
  have hb := num_bd l
  have e : valIs k l = ((numOf l).2 && (decide (0 ≤ (numOf l).1) && decide ((numOf l).1 + c ≤ l.length))) := by
    unfold valIs valLen
    rw [hk, read_num]
    cases h : (numOf l).2 with
    | false => simp
    | true =>
      by_cases h0 : 0 ≤ (numOf l).1
      · have hw := (wrap_sum (numOf l).1 c l.length h0 hb.2 c0 c1 (by omega)).1
        rw [Bool.eq_iff_iff]
        simp only [Bool.and_eq_true, decide_eq_true_eq, true_and, h0]
        exact hw
      · simp [h0]
  refine ⟨e, fun h => ?_⟩
  rw [e] at h
  simp only [Bool.and_eq_true, decide_eq_true_eq] at h
  have hw := (wrap_sum (numOf l).1 c l.length h.2.1 hb.2 c0 c1 (by omega)).2 h.2.2
  unfold valLen
  rw [hk, read_num]
  exact hw
theorem val_num0 (l : List UInt8) (k : Int) (hk : valBase k l = readLen l) :
    valIs k l = ((numOf l).2 && (decide (0 ≤ (numOf l).1) && decide ((numOf l).1 ≤ l.length))) ∧ (valLen k l).1 = (numOf l).1 := by
  constructor
  · unfold valIs valLen
    rw [hk, read_num]
    cases h : (numOf l).2 with
    | false => simp
    | true =>
      by_cases h0 : 0 ≤ (numOf l).1
      · simp [h0]
      · simp [h0]
  · unfold valLen
    rw [hk, read_num]
theorem val_fix (l : List UInt8) (k : Int) (n : Nat) (hk : valBase k l = ((n : Int), true)) : valIs k l = decide (n ≤ l.length) ∧ (valLen k l).1 = (n : Int) := by
  constructor
  · unfold valIs valLen
    rw [hk]
    rw [Bool.eq_iff_iff]
    simp
  · unfold valLen
    rw [hk]
theorem val_none (l : List UInt8) (k : Int) (hk : valBase k l = (0, false)) : valIs k l = false := by
  unfold valIs valLen
  rw [hk]
  rfl
theorem idx_bd (l : List UInt8) : -1 ≤ Lib.indexByte l 0 ∧ Lib.indexByte l 0 ≤ (l.length : Int) := by
  rcases idx_lt l 0 with h | h
  · refine ⟨?_, by omega⟩
    have : ∀ (l : List UInt8) (z : UInt8), -1 ≤ Lib.indexByte l z := by
      intro l z
      induction l with
      | nil => simp [Lib.indexByte]
      | cons x r ih =>
        unfold Lib.indexByte
        split
        · omega
        · split <;> omega
    exact this l 0
  · subst h; simp [Lib.indexByte]
theorem val_regex (l : List UInt8) (hl : l.length ≤ 5000) : valIs 11 l = ((nmOf l).2 && (nmOf (l.drop (nmOf l).1.toNat)).2) ∧ (valIs 11 l = true → (valLen 11 l).1 = (nmOf l).1 + (nmOf (l.drop (nmOf l).1.toNat)).1) := by
  have hb : valBase 11 l = (if Lib.indexByte l 0 < 0 then (0, false) else if Lib.indexByte (l.drop (Lib.indexByte l 0 + 1).toNat) 0 < 0 then (0, false) else (wrap32 (Lib.indexByte l 0 + 1 + Lib.indexByte (l.drop (Lib.indexByte l 0 + 1).toNat) 0 + 1), true)) := rfl
  have h1 := idx_bd l
  unfold valIs valLen nmOf
  rw [hb]
  by_cases a : Lib.indexByte l 0 < 0
  · simp [a]
  · simp only [a, if_false]
    have h2 := idx_bd (l.drop (Lib.indexByte l 0 + 1).toNat)
    have h3 := List.length_drop (i := (Lib.indexByte l 0 + 1).toNat) (l := l)
    by_cases b : Lib.indexByte (l.drop (Lib.indexByte l 0 + 1).toNat) 0 < 0
    · simp [b]
    · have hlt := (idx_lt (l.drop (Lib.indexByte l 0 + 1).toNat) 0)
      have hne : l.drop (Lib.indexByte l 0 + 1).toNat ≠ [] := by
        intro h
        rw [h] at b
        simp [Lib.indexByte] at b
      have hlt2 := hlt.resolve_right hne
      have hw : wrap32 (Lib.indexByte l 0 + 1 + Lib.indexByte (l.drop (Lib.indexByte l 0 + 1).toNat) 0 + 1) = Lib.indexByte l 0 + 1 + (Lib.indexByte (l.drop (Lib.indexByte l 0 + 1).toNat) 0 + 1) := by unfold wrap32; omega
      simp only [b, if_false, hw]
      constructor
      · simp; omega
      · simp
end Sp
end Go.Proofs.YtbpopaegfhcdpaaGreatDoor.X
