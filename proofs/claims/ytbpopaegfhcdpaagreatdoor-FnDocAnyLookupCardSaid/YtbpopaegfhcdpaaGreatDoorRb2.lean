/- Put together: MoPl, RbPl. -/
import Derived.Test.YtbpopaegfhcdpaaGreatDoorLookup
import Derived.Test.YtbpopaegfhcdpaaGreatDoorChk
import Derived.Test.YtbpopaegfhcdpaaGreatDoorStart2
/- Plain law: what is told of some bytes as a value is told of longer ones. -/
set_option linter.unusedVariables false
set_option linter.unusedSimpArgs false
set_option maxRecDepth 100000
namespace Go.Proofs.YtbpopaegfhcdpaaGreatDoor.X
open Go.RowKit
theorem idx_app : ∀ (p q : List UInt8) (z : UInt8), 0 ≤ Lib.indexByte p z → Lib.indexByte (p ++ q) z = Lib.indexByte p z
  | [], q, z, h => by simp [Lib.indexByte] at h
  | b :: r, q, z, h => by
    by_cases hb : (b == z) = true
    · simp [Lib.indexByte, hb]
    · have hb' : (b == z) = false := by simpa using hb
      by_cases hr : 0 ≤ Lib.indexByte r z
      · have := idx_app r q z hr
        simp only [List.cons_append, Lib.indexByte, hb', this]
      · have := idx_ge r z
        have e : Lib.indexByte r z = -1 := by omega
        simp [Lib.indexByte, hb', e] at h
/-- What is told of some bytes is told of longer ones. -/
def Mo (f : List UInt8 → Int × Bool) : Prop := ∀ p q, (f p).2 = true → f (p ++ q) = f p
theorem Mo.ite {c : Prop} [Decidable c] {f g : List UInt8 → Int × Bool} (hf : Mo f) (hg : Mo g) : Mo (fun l => if c then f l else g l) := by
  intro p q h
  by_cases hc : c
  · simp only [if_pos hc] at h ⊢; exact hf p q h
  · simp only [if_neg hc] at h ⊢; exact hg p q h
theorem Mo.const (x : Int × Bool) : Mo (fun _ => x) := fun _ _ _ => rfl
theorem Mo.read : Mo readLen := by
  intro p q h
  unfold readLen at h ⊢
  split at h
  · rfl
  · cases h
theorem Mo.readP (n : Int) : Mo (fun l => (wrap32 ((readLen l).1 + n), (readLen l).2)) := by
  intro p q h
  have e := Mo.read p q h
  simp only [e]
theorem Mo.two : Mo (fun l => if Lib.indexByte l 0 < 0 then (0, false) else if Lib.indexByte (l.drop (Lib.indexByte l 0 + 1).toNat) 0 < 0 then (0, false) else (wrap32 (Lib.indexByte l 0 + 1 + Lib.indexByte (l.drop (Lib.indexByte l 0 + 1).toNat) 0 + 1), true)) := by
  intro p q h
  by_cases h1 : Lib.indexByte p 0 < 0
  · simp only [if_pos h1] at h; cases h
  · simp only [if_neg h1] at h
    have e1 := idx_app p q 0 (by omega)
    have hl : (Lib.indexByte p 0 + 1).toNat ≤ p.length := by
      rcases idx_lt p 0 with h2 | h2
      · omega
      · subst h2; simp [Lib.indexByte] at h1
    have e2 : (p ++ q).drop (Lib.indexByte p 0 + 1).toNat = p.drop (Lib.indexByte p 0 + 1).toNat ++ q := List.drop_append_of_le_length hl
    by_cases h3 : Lib.indexByte (p.drop (Lib.indexByte p 0 + 1).toNat) 0 < 0
    · simp only [if_pos h3] at h; cases h
    · have e3 := idx_app (p.drop (Lib.indexByte p 0 + 1).toNat) q 0 (by omega)
      simp only [e1, e2, e3]
theorem base_mo (k : Int) : Mo (valBase k) := by
  unfold valBase
  exact Mo.ite Mo.read (Mo.ite (Mo.readP 5) (Mo.ite (Mo.const _) (Mo.ite (Mo.readP 16) (Mo.ite (Mo.const _) (Mo.ite (Mo.const _) (Mo.ite (Mo.const _) (Mo.ite (Mo.readP 4) (Mo.ite (Mo.const _) (Mo.ite (Mo.const _) (Mo.ite Mo.two (Mo.const _)))))))))))
theorem valLen_mo {k : Int} {p : List UInt8} (q : List UInt8) (h : (valLen k p).2 = true) : valLen k (p ++ q) = valLen k p := by
  have h2 : ((valBase k p).2 && decide (0 ≤ (valBase k p).1)) = true := h
  rw [Bool.and_eq_true] at h2
  unfold valLen
  rw [base_mo k p q h2.1]
end Go.Proofs.YtbpopaegfhcdpaaGreatDoor.X


/- Plain law of FnDocRebuilt: the elements of what is valid, put behind one another. No program. -/
set_option linter.unusedVariables false
set_option linter.unusedSimpArgs false
set_option maxRecDepth 100000
namespace Go.Proofs.YtbpopaegfhcdpaaGreatDoor.X
open Go.RowKit
namespace Ck
open Sp Al Av Aw
/-- The elements that begin some bytes, each as its bytes. -/
def els : Nat → Int → List UInt8 → List (List UInt8)
  | 0, _, _ => []
  | f + 1, left, rem => if 1 < left then (match firstN rem with
      | none => []
      | some k => rem.take k :: els f (left - k) (rem.drop k)) else []
theorem els_step (f : Nat) (left : Int) (rem : List UInt8) (k : Nat) (h1 : 1 < left) (h2 : firstN rem = some k) : els (f + 1) left rem = rem.take k :: els f (left - k) (rem.drop k) := by
  rw [els, if_pos h1, h2]
theorem els_end (f : Nat) (left : Int) (rem : List UInt8) (h1 : ¬ 1 < left) : els (f + 1) left rem = [] := by rw [els, if_neg h1]
/-- An element: its kind, its name, its value. -/
structure IsEl (e : List UInt8) (t : UInt8) (nm v : List UInt8) : Prop where
  eq : e = t :: (nm ++ 0 :: v)
  plain : plainB nm = true
  val : valLen (t.toNat : Int) v = ((v.length : Int), true)
theorem elem_code_val {t : UInt8} {nm v : List UInt8} (hp : plainB nm = true) (h : elemCode (t :: (nm ++ 0 :: v)) = 0) : valIs (t.toNat : Int) v = true := by
  have hi : Lib.indexByte (nm ++ 0 :: v) ((0 : Int).toNat.toUInt8) = nm.length := index_plain nm v hp
  unfold elemCode at h
  rw [if_pos (by simp)] at h
  have e1 : (t :: (nm ++ 0 :: v)).drop 1 = nm ++ 0 :: v := rfl
  rw [e1, hi, if_pos (by omega)] at h
  have e3 : (t :: (nm ++ 0 :: v)).drop ((nm.length : Int) + 2).toNat = v := by
    rw [show ((nm.length : Int) + 2).toNat = nm.length + 1 + 1 from by omega, List.drop_succ_cons, List.drop_append, List.drop_of_length_le (by omega), show nm.length + 1 - nm.length = 1 from by omega]
    rfl
  rw [e3] at h
  have e4 : (t :: (nm ++ 0 :: v)).headD 0 = t := rfl
  rw [e4] at h
  by_cases hv : valIs (t.toNat : Int) v = true
  · exact hv
  · rw [if_neg hv] at h; cases h
theorem first_full (rem : List UInt8) (k : Nat) (h : firstN rem = some k) (h0 : elemCode (rem.take k) = 0) : (∃ t nm v, IsEl (rem.take k) t nm v) ∧ 2 ≤ k ∧ k ≤ rem.length := by
  match rem, h, h0 with
  | t :: r, h, h0 =>
    simp only [firstN] at h
    by_cases hn : (nmOf r).2 = true
    · rw [if_pos hn] at h
      obtain ⟨nm, bl, rfl, hp, e1, e2⟩ := nm_split r hn
      by_cases hv : valIs (t.toNat : Int) ((nm ++ 0 :: bl).drop (nmOf (nm ++ 0 :: bl)).1.toNat) = true
      · rw [if_pos hv, e2, e1] at h
        rw [e2] at hv
        obtain ⟨n, h1, h2⟩ := valLen_of_is hv
        rw [h1] at h
        have hk : k = nm.length + 2 + n := by
          have := Option.some.inj h
          simp only [Int.toNat_natCast] at this
          omega
        have ht : (t :: (nm ++ 0 :: bl)).take k = t :: (nm ++ 0 :: bl.take n) := by
          rw [hk, show nm.length + 2 + n = nm.length + 1 + n + 1 from by omega, List.take_succ_cons]
          congr 1
          rw [List.take_append]
          rw [List.take_of_length_le (by omega), show nm.length + 1 + n - nm.length = n + 1 from by omega, List.take_succ_cons]
        rw [ht] at h0 ⊢
        have hvi := elem_code_val hp h0
        obtain ⟨m, h3, h4⟩ := valLen_of_is hvi
        have h5 := valLen_mo (bl.drop n) (k := (t.toNat : Int)) (p := bl.take n) (by rw [h3])
        rw [List.take_append_drop, h1, h3] at h5
        have h6 : (n : Int) = m := (Prod.mk.inj h5).1
        have hl : (bl.take n).length = n := by rw [List.length_take]; omega
        exact ⟨⟨t, nm, bl.take n, ⟨rfl, hp, by rw [h3, hl, h6]⟩⟩, by omega, by simp; omega⟩
      · rw [if_neg hv] at h; cases h
    · rw [if_neg hn] at h; cases h
theorem chk_pos {f : Nat} {left : Int} {rem : List UInt8} (h1 : 1 < left) (h : chk (f + 1) left rem = 0) : ∃ k, firstN rem = some k ∧ elemCode (rem.take k) = 0 ∧ chk f (left - k) (rem.drop k) = 0 := by
  cases hf : firstN rem with
  | none => rw [chk_none f left rem h1 hf] at h; cases h
  | some k =>
    by_cases hc : elemCode (rem.take k) = 0
    · rw [chk_step f left rem k h1 hf hc] at h
      exact ⟨k, rfl, hc, h⟩
    · rw [chk_bad f left rem k _ hc h1 hf rfl] at h
      exact absurd h hc
theorem els_all : ∀ (f : Nat) (left : Int) (rem : List UInt8), chk f left rem = 0 → (∀ e ∈ els f left rem, ∃ t nm v, IsEl e t nm v) ∧ ∃ rest, rem = (els f left rem).flatten ++ rest ∧ rest.headD 1 = 0 ∧ left - ((els f left rem).flatten.length : Int) ≤ 1
  | 0, left, rem, h => by simp [chk] at h
  | f + 1, left, rem, h => by
    by_cases h1 : 1 < left
    · obtain ⟨k, hf, hc, hr⟩ := chk_pos h1 h
      obtain ⟨i1, rest, i2, i3, i4⟩ := els_all f _ _ hr
      obtain ⟨j1, j2, j3⟩ := first_full rem k hf hc
      rw [els_step f left rem k h1 hf]
      refine ⟨fun e he => ?_, rest, ?_, i3, ?_⟩
      · rcases List.mem_cons.1 he with rfl | he
        · exact j1
        · exact i1 e he
      · rw [List.flatten_cons, List.append_assoc, ← i2, List.take_append_drop]
      · rw [List.flatten_cons, List.length_append, List.length_take]
        omega
    · rw [els_end f left rem h1]
      rw [chk_end f left rem h1] at h
      refine ⟨by simp, rem, by simp, ?_, by simp; omega⟩
      by_cases hz : rem.headD 1 = 0
      · exact hz
      · rw [if_neg hz] at h; cases h
theorem els_count : ∀ (f : Nat) (left : Int) (rem : List UInt8), chk f left rem = 0 → 2 * (els f left rem).length ≤ rem.length
  | 0, left, rem, h => by simp [chk] at h
  | f + 1, left, rem, h => by
    by_cases h1 : 1 < left
    · obtain ⟨k, hf, hc, hr⟩ := chk_pos h1 h
      obtain ⟨j1, j2, j3⟩ := first_full rem k hf hc
      have := els_count f _ _ hr
      rw [els_step f left rem k h1 hf, List.length_cons]
      rw [List.length_drop] at this
      omega
    · rw [els_end f left rem h1]; simp
theorem ub_of (n : Int) (b : UInt8) (h : n % 256 = (b.toNat : Int)) : ub n = b := by
  apply UInt8.toNat_inj.1
  have h2 := ub_toNat n
  omega
theorem i32_of_read (l : List UInt8) (n : Int) (h : readLen l = (n, true)) : l.take 4 = i32 n := by
  match l, h with
  | b0 :: b1 :: b2 :: b3 :: r, h =>
    simp only [readLen, Prod.mk.injEq, decide_eq_true_eq] at h
    obtain ⟨h1, h2⟩ := h
    have a0 := b0.toNat_lt
    have a1 := b1.toNat_lt
    have a2 := b2.toNat_lt
    have a3 := b3.toNat_lt
    simp only [leI] at h1 h2
    have hn : n = (b0.toNat : Int) + 256 * ((b1.toNat : Int) + 256 * ((b2.toNat : Int) + 256 * ((b3.toNat : Int) + 256 * 0))) := by
      rw [← h1]; unfold wrap32 at h2 ⊢; omega
    show [b0, b1, b2, b3] = i32 n
    unfold i32
    rw [ub_of n b0 (by omega), ub_of (n / 256) b1 (by omega), ub_of (n / 65536) b2 (by omega), ub_of (n / 16777216) b3 (by omega)]
/-- What a valid document comes to. -/
structure Rb (l : List UInt8) (n : Int) (L : List (List UInt8)) : Prop where
  read : readLen l = (n, true)
  five : 5 ≤ n
  le : n ≤ (l.length : Int)
  isl : ∀ e ∈ L, ∃ t nm v, IsEl e t nm v
  sum : n ≤ 5 + (L.flatten.length : Int)
  all : 4 + L.flatten.length ≤ l.length
  same : 5 + (L.flatten.length : Int) = n → l.take n.toNat = i32 n ++ (L.flatten ++ [0])
theorem rb_of (l : List UInt8) (h : docCode l = 0) : ∃ n, readLen l = (n, true) ∧ 5 ≤ n ∧ n ≤ (l.length : Int) ∧ l.getD (n - 1).toNat 0 = 0 ∧ chk (l.length + 1) (n - 4) (l.drop 4) = 0 ∧ Rb l n (els (l.length + 1) (n - 4) (l.drop 4)) := by
  unfold docCode at h
  by_cases h2 : (readLen l).2 = true
  · rw [if_pos h2] at h
    obtain ⟨n, hn⟩ : ∃ n, n = (readLen l).1 := ⟨_, rfl⟩
    have hr : readLen l = (n, true) := by rw [hn]; exact Prod.ext rfl h2
    have h4 := (readLen_neg h2).2
    rw [← hn] at h
    by_cases h5 : (l.length : Int) < n
    · rw [if_pos h5] at h; cases h
    rw [if_neg h5] at h
    by_cases h6 : n < 5
    · rw [if_pos h6] at h; cases h
    rw [if_neg h6] at h
    by_cases h7 : l.getD (n - 1).toNat 0 = 0
    · rw [if_pos h7] at h
      obtain ⟨i1, rest, i2, i3, i4⟩ := els_all _ _ _ h
      refine ⟨n, hr, by omega, by omega, h7, h, hr, by omega, by omega, i1, by omega, ?_, fun hs => ?_⟩
      · have := congrArg List.length i2
        rw [List.length_drop, List.length_append] at this
        omega
      · obtain ⟨F, hF⟩ : ∃ F, F = (els (l.length + 1) (n - 4) (l.drop 4)).flatten := ⟨_, rfl⟩
        rw [← hF] at i2 hs ⊢
        have hrest : ∃ r2, rest = 0 :: r2 := by
          cases rest with
          | nil => simp at i3
          | cons a r2 =>
            have : a = 0 := i3
            exact ⟨r2, by rw [this]⟩
        obtain ⟨r2, rfl⟩ := hrest
        have e1 : l = l.take 4 ++ (F ++ 0 :: r2) := by rw [← i2, List.take_append_drop]
        have e2 : n.toNat = (l.take 4 ++ (F ++ [0])).length := by
          rw [List.length_append, List.length_take, List.length_append]
          simp only [List.length_cons, List.length_nil]
          omega
        rw [← i32_of_read l n hr]
        have e3 : l.take 4 ++ (F ++ 0 :: r2) = (l.take 4 ++ (F ++ [0])) ++ r2 := by simp
        rw [e3] at e1
        conv => lhs; rw [e1]
        rw [e2, List.take_left]
    · rw [if_neg h7] at h; cases h
  · rw [if_neg h2] at h; cases h
end Ck
end Go.Proofs.YtbpopaegfhcdpaaGreatDoor.X


