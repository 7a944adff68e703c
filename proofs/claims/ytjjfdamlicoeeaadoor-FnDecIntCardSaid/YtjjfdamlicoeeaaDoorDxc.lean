/- Contracts of decDigits and of DecOf (its kind and its sign). -/
import Derived.Test.YtjjfdamlicoeeaaDoorDxb
set_option linter.unusedVariables false
set_option linter.unusedSimpArgs false
set_option maxRecDepth 100000
namespace Go.Proofs.YtjjfdamlicoeeaaDoor.X
open Go.RowKit
theorem decDigits (N : Nat) (w : World) (hN : N < 340282366920938463463374607431768211456) :
    Calls Tryd.prog 27 #[.int .u64 (hiOf N), .int .u64 (loOf N)] w fun e w' => e = .returned (.string ⟨(digs N).toArray⟩) ∧ Below w.heap.size w w' := by
  by_cases h0 : N = 0
  · subst h0
    show Calls Tryd.prog 27 #[.int .u64 0, .int .u64 0] w _
    go_enter Tryd.func27, Tryd.ntmps27
    go_wp2
    go_ret
    exact ⟨rfl, Below.refl _ _⟩
  · have h := decDigits_loop N w (Lib.hid hN) (by
      by_cases h : hiOf N = 0
      · refine .inr ⟨h, ?_⟩
        simp only [beq_eq_false_iff_ne, ne_eq]
        exact fun h2 => h0 (Dig.lo0 h h2)
      · exact .inl (by simpa using h))
    rw [show digs N = decl N from by simp [digs, h0]]
    exact h
theorem digits_any (a b : Int) (w : World) (h1 : 0 ≤ a) (h2 : a ≤ 18446744073709551615) (h3 : 0 ≤ b) (h4 : b ≤ 18446744073709551615) :
    Calls Tryd.prog 27 #[.int .u64 a, .int .u64 b] w fun e w' => e = .returned (.string ⟨(digs (a * 18446744073709551616 + b).toNat).toArray⟩) ∧ Below w.heap.size w w' := by
  have h := decDigits (a * 18446744073709551616 + b).toNat w (by omega)
  rw [show hiOf (a * 18446744073709551616 + b).toNat = a from by simp only [hiOf]; omega, show loOf (a * 18446744073709551616 + b).toNat = b from by simp only [loOf]; omega] at h
  exact h

end Go.Proofs.YtjjfdamlicoeeaaDoor.X
