/- Plain law: a right element is one, and broken off it is none. -/
import Derived.Test.YtjbeaofnnodlcaaGreatDoorLookup
import Derived.Test.YtjbeaofnnodlcaaGreatDoorValLen
set_option linter.unusedVariables false
set_option linter.unusedSimpArgs false
set_option maxRecDepth 100000
namespace Go.Proofs.YtjbeaofnnodlcaaGreatDoor.X
open Go.RowKit
theorem idx_app : ∀ (p q : List UInt8) (z : UInt8), 0 ≤ Lib.indexByte p z → Lib.indexByte (p ++ q) z = Lib.indexByte p z
  | [], q, z, h => by simp [Lib.indexByte] at h
  | b :: r, q, z, h => by
    by_cases hb : (b == z) = true
    · simp [Lib.indexByte, hb]
    · have hb' : (b == z) = false := by simpa using hb
      by_cases hr : 0 ≤ Lib.indexByte r z
      · have := idx_app r q z hr
        simp only [List.cons_append, Lib.indexByte, hb', this]
      · have := idx_ge r z
        have e : Lib.indexByte r z = -1 := by omega
        simp [Lib.indexByte, hb', e] at h
/-- What is told of some bytes is told of longer ones. -/
def Mo (f : List UInt8 → Int × Bool) : Prop := ∀ p q, (f p).2 = true → f (p ++ q) = f p
theorem Mo.ite {c : Prop} [Decidable c] {f g : List UInt8 → Int × Bool} (hf : Mo f) (hg : Mo g) : Mo (fun l => if c then f l else g l) := by
  intro p q h
  by_cases hc : c
  · simp only [if_pos hc] at h ⊢; exact hf p q h
  · simp only [if_neg hc] at h ⊢; exact hg p q h
theorem Mo.const (x : Int × Bool) : Mo (fun _ => x) := fun _ _ _ => rfl
theorem Mo.read : Mo readLen := by
  intro p q h
  unfold readLen at h ⊢
  split at h
  · rfl
  · cases h
theorem Mo.readP (n : Int) : Mo (fun l => (wrap32 ((readLen l).1 + n), (readLen l).2)) := by
  intro p q h
  have e := Mo.read p q h
  simp only [e]
theorem Mo.two : Mo (fun l => if Lib.indexByte l 0 < 0 then (0, false) else if Lib.indexByte (l.drop (Lib.indexByte l 0 + 1).toNat) 0 < 0 then (0, false) else (wrap32 (Lib.indexByte l 0 + 1 + Lib.indexByte (l.drop (Lib.indexByte l 0 + 1).toNat) 0 + 1), true)) := by
  intro p q h
  by_cases h1 : Lib.indexByte p 0 < 0
  · simp only [if_pos h1] at h; cases h
  · simp only [if_neg h1] at h
    have e1 := idx_app p q 0 (by omega)
    have hl : (Lib.indexByte p 0 + 1).toNat ≤ p.length := by
      rcases idx_lt p 0 with h2 | h2
      · omega
      · subst h2; simp [Lib.indexByte] at h1
    have e2 : (p ++ q).drop (Lib.indexByte p 0 + 1).toNat = p.drop (Lib.indexByte p 0 + 1).toNat ++ q := List.drop_append_of_le_length hl
    by_cases h3 : Lib.indexByte (p.drop (Lib.indexByte p 0 + 1).toNat) 0 < 0
    · simp only [if_pos h3] at h; cases h
    · have e3 := idx_app (p.drop (Lib.indexByte p 0 + 1).toNat) q 0 (by omega)
      simp only [e1, e2, e3]
theorem base_mo (k : Int) : Mo (valBase k) := by
  unfold valBase
  exact Mo.ite Mo.read (Mo.ite (Mo.readP 5) (Mo.ite (Mo.const _) (Mo.ite (Mo.readP 16) (Mo.ite (Mo.const _) (Mo.ite (Mo.const _) (Mo.ite (Mo.const _) (Mo.ite (Mo.readP 4) (Mo.ite (Mo.const _) (Mo.ite (Mo.const _) (Mo.ite Mo.two (Mo.const _)))))))))))
theorem valLen_mo {k : Int} {p : List UInt8} (q : List UInt8) (h : (valLen k p).2 = true) : valLen k (p ++ q) = valLen k p := by
  have h2 : ((valBase k p).2 && decide (0 ≤ (valBase k p).1)) = true := h
  rw [Bool.and_eq_true] at h2
  unfold valLen
  rw [base_mo k p q h2.1]
theorem plain_take {l : List UInt8} (h : plainB l = true) (n : Nat) : plainB (l.take n) = true := by
  simp only [plainB, List.all_eq_true] at h ⊢
  exact fun x hx => h x (List.mem_of_mem_take hx)
theorem valIs_whole {k : Int} {bl : List UInt8} (hv : valLen k bl = ((bl.length : Int), true)) : valIs k bl = true := by
  unfold valIs
  rw [hv]
  simp
theorem valIs_cut {k : Int} {bl : List UInt8} (hv : valLen k bl = ((bl.length : Int), true)) {j : Nat} (hj : j < bl.length) : valIs k (bl.take j) = false := by
  cases h : valIs k (bl.take j) with
  | false => rfl
  | true =>
    exfalso
    obtain ⟨n, h1, h2⟩ := valLen_of_is h
    have h3 := valLen_mo (bl.drop j) (k := k) (p := bl.take j) (by rw [h1])
    rw [List.take_append_drop, hv, h1] at h3
    have h4 : (bl.length : Int) = n := (Prod.mk.inj h3).1
    rw [List.length_take] at h2
    omega
theorem elemIs_right (k0 : UInt8) (nm bl : List UInt8) (hn : plainB nm = true) (hv : valLen (k0.toNat : Int) bl = ((bl.length : Int), true)) : elemIs (k0 :: (nm ++ 0 :: bl)) = true := by
  unfold elemIs
  simp only [List.drop_succ_cons, List.drop_zero, List.headD_cons, List.length_cons]
  rw [index_plain nm bl hn, show ((nm.length : Int) + 2).toNat = nm.length + 1 + 1 from by omega, List.drop_succ_cons, show (nm ++ 0 :: bl).drop (nm.length + 1) = bl from by simp, valIs_whole hv]
  simp
theorem elemIs_cut (k0 : UInt8) (nm bl : List UInt8) (cut : Nat) (hn : plainB nm = true) (hv : valLen (k0.toNat : Int) bl = ((bl.length : Int), true)) (hc : cut < (k0 :: (nm ++ 0 :: bl)).length) : elemIs ((k0 :: (nm ++ 0 :: bl)).take cut) = false := by
  cases cut with
  | zero => simp [elemIs]
  | succ m =>
    rw [List.take_succ_cons]
    unfold elemIs
    simp only [List.drop_succ_cons, List.drop_zero, List.headD_cons, List.length_cons]
    by_cases h : m ≤ nm.length
    · rw [List.take_append_of_le_length h, index_none _ (plain_take hn m)]
      simp
    · obtain ⟨j, rfl⟩ : ∃ j, m = nm.length + 1 + j := ⟨m - nm.length - 1, by omega⟩
      have e : (nm ++ 0 :: bl).take (nm.length + 1 + j) = nm ++ 0 :: bl.take j := by
        rw [show nm ++ 0 :: bl = (nm ++ [0]) ++ bl from by simp, show nm.length + 1 + j = (nm ++ [0]).length + j from by simp, List.take_length_add_append]
        simp
      rw [e, index_plain nm _ hn, show ((nm.length : Int) + 2).toNat = nm.length + 1 + 1 from by omega, List.drop_succ_cons, show (nm ++ 0 :: bl.take j).drop (nm.length + 1) = bl.take j from by simp, valIs_cut hv (by simp at hc; omega)]
      simp
end Go.Proofs.YtjbeaofnnodlcaaGreatDoor.X
