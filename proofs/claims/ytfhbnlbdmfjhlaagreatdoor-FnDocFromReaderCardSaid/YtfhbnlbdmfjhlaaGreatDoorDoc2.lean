/- Contracts of the small functions of the reference: kinds, names, numbers in digits. -/
import Derived.Test.YtfhbnlbdmfjhlaaGreatDoorWords
import Derived.Deep.RegionWith
import Derived.IntWalk
set_option linter.unusedVariables false
set_option linter.unusedSimpArgs false
set_option maxRecDepth 100000
namespace Go.Proofs.YtfhbnlbdmfjhlaaGreatDoor.X
open Go.RowKit
theorem ret_bool {a b : Bool} (h : a = b) : Ending.returned (.bool a) = .returned (.bool b) := by rw [h]
theorem ret_str {a b : ByteArray} (h : a = b) : Ending.returned (.string a) = .returned (.string b) := by rw [h]

def known (k : Int) : Bool := decide (1 ≤ k ∧ k ≤ 19 ∨ k = 255 ∨ k = 127)
def plainB (s : List UInt8) : Bool := s.all fun b => decide (b.toNat ≠ 0)
/-- A natural number in decimal digits. -/
def digits (n : Nat) : List UInt8 := if h : n < 10 then [UInt8.ofNat (48 + n)] else digits (n / 10) ++ [UInt8.ofNat (48 + n % 10)]
theorem digits_len (n : Nat) : ∀ d, n < 10 ^ (d + 1) → (digits n).length ≤ d + 1 := by
  induction n using Nat.strongRecOn with
  | ind n ih =>
    intro d hd
    rw [digits]
    split
    · simp
    · rename_i h
      cases d with
      | zero => simp at hd; omega
      | succ d =>
        have := ih (n / 10) (by omega) d (by rw [Nat.pow_succ] at hd; omega)
        simp
        omega
theorem strOfNums_one (x : Int) (h0 : 0 ≤ x) (h1 : x < 256) : strOfNums [x] = ⟨[UInt8.ofNat x.toNat].toArray⟩ := rfl

end Go.Proofs.YtfhbnlbdmfjhlaaGreatDoor.X
