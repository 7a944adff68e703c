/- How long the bytes of a right value are. -/
import Derived.Test.YtohfgfbfohkkkaaGreatDoorDoc5
import Derived.Test.YtohfgfbfohkkkaaGreatDoorDoc8
set_option linter.unusedVariables false
set_option linter.unusedSimpArgs false
set_option maxRecDepth 100000
namespace Go.Proofs.YtohfgfbfohkkkaaGreatDoor.X
open Go.RowKit
mutual
theorem docValue_len : ∀ v : Val, (docValue v).length + 10 ≤ bytesN v + 32 * nodes v
  | .mk k t m n bi hi b ks => by
    have h := docElems_len ks
    simp only [docValue, bytesN, nodes]
    by_cases a1 : k = 1 ∨ k = 17
    · rw [if_pos a1]; simp [i64_len, txt, i32, bs]; try omega
    rw [if_neg a1]
    by_cases a2 : k = 2 ∨ k = 13 ∨ k = 14
    · rw [if_pos a2]; simp [i64_len, txt, i32, bs]; try omega
    rw [if_neg a2]
    by_cases a3 : k = 3 ∨ k = 4
    · rw [if_pos a3]; simp [i64_len, txt, i32, bs]; try omega
    rw [if_neg a3]
    by_cases a5 : k = 5
    · rw [if_pos a5]
      by_cases n2 : n = 2
      · rw [if_pos n2]; simp [i32]; omega
      · rw [if_neg n2]; simp [i32]; omega
    rw [if_neg a5]
    by_cases a7 : k = 7
    · rw [if_pos a7]; simp [i64_len, txt, i32, bs]; try omega
    rw [if_neg a7]
    by_cases a8 : k = 8
    · rw [if_pos a8]; simp [i64_len, txt, i32, bs]; try omega
    rw [if_neg a8]
    by_cases a9 : k = 9 ∨ k = 18
    · rw [if_pos a9]; simp [i64_len, txt, i32, bs]; try omega
    rw [if_neg a9]
    by_cases a16 : k = 16
    · rw [if_pos a16]; simp [i64_len, txt, i32, bs]; try omega
    rw [if_neg a16]
    by_cases a11 : k = 11
    · rw [if_pos a11]; simp [i64_len, txt, i32, bs]; try omega
    rw [if_neg a11]
    by_cases a12 : k = 12
    · rw [if_pos a12]; simp [i64_len, txt, i32, bs]; try omega
    rw [if_neg a12]
    by_cases a15 : k = 15
    · rw [if_pos a15]; simp [i64_len, txt, i32, bs]; try omega
    rw [if_neg a15]
    by_cases a19 : k = 19
    · rw [if_pos a19]; simp [i64_len, txt, i32, bs]; try omega
    rw [if_neg a19]
    simp
    omega
theorem docElems_len : ∀ ks : List (ByteArray × Val), (docElems ks).length ≤ bytesK ks + 32 * nodesK ks
  | [] => by simp [docElems]
  | (nm, v) :: r => by
    have h1 := docValue_len v
    have h2 := docElems_len r
    simp [docElems, bytesK, nodesK, hd, bs]
    omega
end
theorem fine_len {v : Val} {most : Int} {bytes : Nat} (h : fine v most bytes = true) (h0 : 0 ≤ most) : bytesN v ≤ bytes ∧ (nodes v : Int) ≤ most ∧ right v 200 = true := by
  simp only [fine, Bool.and_eq_true, decide_eq_true_eq] at h
  exact ⟨h.2, by rw [count_nodes v most h0 h.1.1]; exact h.1.1, h.1.2⟩
theorem fine_value {v : Val} {most : Int} {bytes : Nat} (h : fine v most bytes = true) (h0 : 0 ≤ most) (h1 : most ≤ 100000) (h2 : bytes ≤ 1000000) : (docValue v).length ≤ bytes + 3200000 := by
  have := fine_len h h0
  have := docValue_len v
  omega
end Go.Proofs.YtohfgfbfohkkkaaGreatDoor.X
