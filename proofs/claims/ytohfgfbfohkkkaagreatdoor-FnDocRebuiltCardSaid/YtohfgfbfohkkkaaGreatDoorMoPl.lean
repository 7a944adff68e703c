/- Plain law: what is told of some bytes as a value is told of longer ones. -/
import Derived.Test.YtohfgfbfohkkkaaGreatDoorLookup
set_option linter.unusedVariables false
set_option linter.unusedSimpArgs false
set_option maxRecDepth 100000
namespace Go.Proofs.YtohfgfbfohkkkaaGreatDoor.X
open Go.RowKit
theorem idx_app : ∀ (p q : List UInt8) (z : UInt8), 0 ≤ Lib.indexByte p z → Lib.indexByte (p ++ q) z = Lib.indexByte p z
  | [], q, z, h => by simp [Lib.indexByte] at h
  | b :: r, q, z, h => by
    by_cases hb : (b == z) = true
    · simp [Lib.indexByte, hb]
    · have hb' : (b == z) = false := by simpa using hb
      by_cases hr : 0 ≤ Lib.indexByte r z
      · have := idx_app r q z hr
        simp only [List.cons_append, Lib.indexByte, hb', this]
      · have := idx_ge r z
        have e : Lib.indexByte r z = -1 := by omega
        simp [Lib.indexByte, hb', e] at h
/-- What is told of some bytes is told of longer ones. -/
def Mo (f : List UInt8 → Int × Bool) : Prop := ∀ p q, (f p).2 = true → f (p ++ q) = f p
theorem Mo.ite {c : Prop} [Decidable c] {f g : List UInt8 → Int × Bool} (hf : Mo f) (hg : Mo g) : Mo (fun l => if c then f l else g l) := by
  intro p q h
  by_cases hc : c
  · simp only [if_pos hc] at h ⊢; exact hf p q h
  · simp only [if_neg hc] at h ⊢; exact hg p q h
theorem Mo.const (x : Int × Bool) : Mo (fun _ => x) := fun _ _ _ => rfl
theorem Mo.read : Mo readLen := by
  intro p q h
  unfold readLen at h ⊢
  split at h
  · rfl
  · cases h
theorem Mo.readP (n : Int) : Mo (fun l => (wrap32 ((readLen l).1 + n), (readLen l).2)) := by
  intro p q h
  have e := Mo.read p q h
  simp only [e]
theorem Mo.two : Mo (fun l => if Lib.indexByte l 0 < 0 then (0, false) else if Lib.indexByte (l.drop (Lib.indexByte l 0 + 1).toNat) 0 < 0 then (0, false) else (wrap32 (Lib.indexByte l 0 + 1 + Lib.indexByte (l.drop (Lib.indexByte l 0 + 1).toNat) 0 + 1), true)) := by
  intro p q h
  by_cases h1 : Lib.indexByte p 0 < 0
  · simp only [if_pos h1] at h; cases h
  · simp only [if_neg h1] at h
    have e1 := idx_app p q 0 (by omega)
    have hl : (Lib.indexByte p 0 + 1).toNat ≤ p.length := by
      rcases idx_lt p 0 with h2 | h2
      · omega
      · subst h2; simp [Lib.indexByte] at h1
    have e2 : (p ++ q).drop (Lib.indexByte p 0 + 1).toNat = p.drop (Lib.indexByte p 0 + 1).toNat ++ q := List.drop_append_of_le_length hl
    by_cases h3 : Lib.indexByte (p.drop (Lib.indexByte p 0 + 1).toNat) 0 < 0
    · simp only [if_pos h3] at h; cases h
    · have e3 := idx_app (p.drop (Lib.indexByte p 0 + 1).toNat) q 0 (by omega)
      simp only [e1, e2, e3]
theorem base_mo (k : Int) : Mo (valBase k) := by
  unfold valBase
  exact Mo.ite Mo.read (Mo.ite (Mo.readP 5) (Mo.ite (Mo.const _) (Mo.ite (Mo.readP 16) (Mo.ite (Mo.const _) (Mo.ite (Mo.const _) (Mo.ite (Mo.const _) (Mo.ite (Mo.readP 4) (Mo.ite (Mo.const _) (Mo.ite (Mo.const _) (Mo.ite Mo.two (Mo.const _)))))))))))
theorem valLen_mo {k : Int} {p : List UInt8} (q : List UInt8) (h : (valLen k p).2 = true) : valLen k (p ++ q) = valLen k p := by
  have h2 : ((valBase k p).2 && decide (0 ≤ (valBase k p).1)) = true := h
  rw [Bool.and_eq_true] at h2
  unfold valLen
  rw [base_mo k p q h2.1]
end Go.Proofs.YtohfgfbfohkkkaaGreatDoor.X
