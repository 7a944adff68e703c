/- Array.Validate for all bytes, with its codes. -/
import Derived.Test.YtbpopaegfhcdpaaGreatDoorChk
set_option linter.unusedVariables false
set_option linter.unusedSimpArgs false
set_option maxRecDepth 100000
namespace Go.Proofs.YtbpopaegfhcdpaaGreatDoor
end Go.Proofs.YtbpopaegfhcdpaaGreatDoor
namespace Go.Proofs.YtbpopaegfhcdpaaGreatDoor.X
open Go.RowKit Go.Proofs.YtbpopaegfhcdpaaGreatDoorW.PrintLast
namespace Ck
open Sp Al Av Aw
theorem w64one' (i : Nat) (h : i ≤ 1000000) : wrap64 ((i : Int) + 1) = (i : Int) + 1 := by unfold wrap64; omega
def elName (l : List UInt8) : List UInt8 := (l.drop 1).take ((nmOf (l.drop 1)).1.toNat - 1)
theorem first_split (l : List UInt8) (k : Nat) (h : firstN l = some k) : ∃ t nm v, l.take k = t :: (nm ++ 0 :: v) ∧ plainB nm = true ∧ elName l = nm := by
  match l, h with
  | t :: r, h =>
    cases hn : (nmOf r).2 with
    | false => simp [firstN, hn] at h
    | true =>
      obtain ⟨nm, bl, rfl, hp, e1, e2⟩ := nm_split r hn
      have e3 : (nm ++ 0 :: bl).drop (nm.length + 1) = bl := by rw [← e1]; exact e2
      simp only [firstN, hn, e1, e3, if_true] at h
      cases hv : valIs (t.toNat : Int) bl with
      | false => rw [hv] at h; simp at h
      | true =>
        rw [hv] at h
        simp only [if_true, Option.some.injEq] at h
        refine ⟨t, nm, bl.take (valLen (t.toNat : Int) bl).1.toNat, ?_, hp, ?_⟩
        · rw [← h, show 1 + (nm.length + 1) + (valLen (t.toNat : Int) bl).1.toNat = nm.length + 1 + (valLen (t.toNat : Int) bl).1.toNat + 1 from by omega, List.take_succ_cons]
          congr 1
          rw [List.take_append, List.take_of_length_le (by omega), show nm.length + 1 + (valLen (t.toNat : Int) bl).1.toNat - nm.length = (valLen (t.toNat : Int) bl).1.toNat + 1 from by omega, List.take_succ_cons]
        · unfold elName
          show (nm ++ 0 :: bl).take ((nmOf (nm ++ 0 :: bl)).1.toNat - 1) = nm
          rw [e1]
          simp
end Ck
end Go.Proofs.YtbpopaegfhcdpaaGreatDoor.X
