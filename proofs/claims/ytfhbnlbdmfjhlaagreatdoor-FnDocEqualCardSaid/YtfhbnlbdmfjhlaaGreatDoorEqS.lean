/- The law's tests of sizes and kinds. -/
import Derived.Test.YtfhbnlbdmfjhlaaGreatDoorSpan
set_option linter.unusedVariables false
set_option linter.unusedSimpArgs false
set_option maxRecDepth 100000
namespace Go.Proofs.YtfhbnlbdmfjhlaaGreatDoor.X
open Go.RowKit Go.Proofs.YtfhbnlbdmfjhlaaGreatDoorW.PrintWords
open Go.Proofs.YtfhbnlbdmfjhlaaGreatDoor.PFnDocEqual
namespace Eq2
open Sp
theorem fits3 (A : Option Addr) (c : Nat) (l : List UInt8) (k : Int) (w : World) (hs : SB w A c l) :
    Calls Tryz.prog 5 #[.agg #[.int .i64 k, .slice A l.length c]] w fun e w' => e = .returned (.bool (decide (l.length ≤ 2147483647))) ∧ Below w.heap.size w w' := by
  have h := laws_zzFits3.calls k A c (ints l) (decide (l.length ≤ 2147483647)) w (kd_bytes hs) (by rw [ints_len]; exact hs.le) (by
    unfold laws_zzFits3.f
    rw [ints_len]
    by_cases h : l.length ≤ 2147483647
    · rw [if_neg (by omega), decide_eq_true h]
    · rw [if_pos (by omega), decide_eq_false h])
  rw [ints_len] at h
  exact h
theorem byteK (k : Int) (w : World) : Calls Tryz.prog 6 #[.int .i64 k] w fun e w' => e = .returned (.bool (decide (0 ≤ k ∧ k ≤ 255))) ∧ Below w.heap.size w w' := by
  have h := laws_docByte.calls k (decide (0 ≤ k ∧ k ≤ 255)) w (by
    unfold laws_docByte.f
    by_cases h : 0 ≤ k
    · rw [if_pos h]
      simp [h]
    · rw [if_neg h]
      simp [h])
  refine h.mono ?_
  rintro e w' ⟨rfl, h2⟩
  exact ⟨rfl, by first | exact h2 | exact h2.below | (subst h2; exact Below.refl _ _)⟩
theorem modest (A : Option Addr) (c : Nat) (l : List UInt8) (w : World) (hs : SB w A c l) :
    Calls Tryz.prog 7 #[.slice A l.length c] w fun e w' => e = .returned (.bool (decide (l.length ≤ 5000))) ∧ Below w.heap.size w w' := by
  have h := laws_docModest.calls A c (ints l) (decide (l.length ≤ 5000)) w (kd_bytes hs) (by rw [ints_len]; exact hs.le) (by
    unfold laws_docModest.f
    rw [ints_len]
    congr 1
    rw [Bool.eq_iff_iff]
    simp
    omega)
  rw [ints_len] at h
  refine h.mono ?_
  rintro e w' ⟨rfl, h2⟩
  exact ⟨rfl, by first | exact h2 | exact h2.below | (subst h2; exact Below.refl _ _)⟩
end Eq2
end Go.Proofs.YtfhbnlbdmfjhlaaGreatDoor.X
