/- Timestamps are compared by their seconds, then by their ordinals, alike in all four ways of asking, for every pair of numbers of 64 bits. No conditions. -/
import Derived.Test.YtfpnhlfmnoikhaaPFnBindTimesx1
import Derived.OpenShut
namespace Go.Proofs.Ytfpnhlfmnoikhaa.Pure
open Go.RowKit Go.Proofs.Ytfpnhlfmnoikhaa.PFnBindTimes Go.Proofs.YtfpnhlfmnoikhaaW.PrintWords Go.Proofs.YtfpnhlfmnoikhaaW.PrintLast

theorem wrap_u64_id (n : Int) (h₀ : 0 ≤ n) (h₁ : n < 2 ^ 64) : IntKind.u64.wrap n = n := by
  simp only [IntKind.wrap, IntKind.bits, IntKind.signed]
  simp
  omega

theorem low32 (a : Int) (h₀ : 0 ≤ a) (h₁ : a ≤ 18446744073709551615) : Go.bits .and .u64 a 4294967295 = a % 4294967296 :=
  bits_mask .u64 64 (by decide) wrap_u64_id 32 (by decide) a h₀ (by omega)

theorem timecompare (a b : Int) (s t i k : Int) (hs : a / 4294967296 % 4294967296 = s) (hi : a % 4294967296 = i) (ht : b / 4294967296 % 4294967296 = t) (hk : b % 4294967296 = k) :
    impl_TimeCompare.f a b = some (if s = t ∧ i = k then 0 else if s < t ∨ s = t ∧ i < k then -1 else 1, decide (s < t ∨ s = t ∧ i < k), decide (t < s ∨ s = t ∧ k < i), decide (s = t ∧ i = k)) := by
  simp only [impl_TimeCompare.f, impl_stamp.f, hs, hi, ht, hk, Option.bind_some]
  simp only [bson_Timestamp_Compare.f, bson_Timestamp_Before.f, bson_Timestamp_After.f, bson_Timestamp_Equal.f]
  by_cases h1 : s = t
  · subst h1
    by_cases h2 : i = k
    · subst h2; simp
    · have h2' : ¬ k = i := fun h => h2 h.symm
      by_cases h3 : i < k
      · have h4 : ¬ k < i := by omega
        simp [h2, h3, h4]
      · have h4 : k < i := by omega
        simp [h2, h3, h4]
  · have h1' : ¬ t = s := fun h => h1 h.symm
    by_cases h3 : s < t
    · have h4 : ¬ t < s := by omega
      simp [h1, h3, h4]
    · have h4 : t < s := by omega
      simp [h1, h3, h4]

theorem iszero (a : Int) (h₀ : 0 ≤ a) (h₁ : a ≤ 18446744073709551615) : impl_TimeIsZero.f a = some (a == 0) := by
  simp only [impl_TimeIsZero.f, impl_stamp.f, Option.bind_some, bson_Timestamp_IsZero.f]
  by_cases h : a = 0
  · subst h; simp
  · have e : (a == 0) = false := by simp [h]
    rw [e]
    split
    · have h2 : a % 4294967296 ≠ 0 := by omega
      simp [h2]
    · rfl

theorem order (k : Nat) (a b : Int) (s t i j : Int) (ha : 0 ≤ a) (ha' : a ≤ 18446744073709551615) (hb : 0 ≤ b) (hb' : b ≤ 18446744073709551615)
    (hs : a / 4294967296 = s) (hi : a % 4294967296 = i) (ht : b / 4294967296 = t) (hk : b % 4294967296 = j) :
    spec_BindOrder.f (k + 1) a b = some (if s = t ∧ i = j then 0 else if s < t ∨ s = t ∧ i < j then -1 else 1) := by
  simp only [spec_BindOrder.f, spec_BindOrder.j0, low32 a ha ha', low32 b hb hb', hs, hi, ht, hk]
  by_cases h1 : s = t
  · subst h1
    by_cases h2 : i = j
    · subst h2; simp
    · by_cases h3 : i < j <;> simp [h2, h3]
  · by_cases h3 : s < t <;> simp [h1, h3]

theorem FnBindTimes : laws_FnBindTimes.Pure := by
  intro a b wa wb
  have ha := bounds_u64 wa
  have hb := bounds_u64 wb
  obtain ⟨ha, ha'⟩ := ha
  obtain ⟨hb, hb'⟩ := hb
  refine ⟨1, ?_⟩
  obtain ⟨s, hs⟩ : ∃ s, a / 4294967296 = s := ⟨_, rfl⟩
  obtain ⟨t, ht⟩ : ∃ s, b / 4294967296 = s := ⟨_, rfl⟩
  obtain ⟨i, hi⟩ : ∃ s, a % 4294967296 = s := ⟨_, rfl⟩
  obtain ⟨j, hj⟩ : ∃ s, b % 4294967296 = s := ⟨_, rfl⟩
  have hs2 : a / 4294967296 % 4294967296 = s := by omega
  have ht2 : b / 4294967296 % 4294967296 = t := by omega
  simp only [laws_FnBindTimes.f, timecompare a b s t i j hs2 hi ht2 hj, timecompare b a t s j i ht2 hj hs2 hi, order 0 a b s t i j ha ha' hb hb' hs hi ht hj, iszero a ha ha', Option.bind_some]
  clear hs hs2 ht ht2 hi hj
  by_cases h1 : s = t
  · subst h1
    by_cases h2 : i = j
    · subst h2; simp [wrap64]
    · have h2' : ¬ j = i := fun h => h2 h.symm
      by_cases h3 : i < j
      · have h4 : ¬ j < i := by omega
        simp [h2, h2', h3, h4, wrap64]
      · have h4 : j < i := by omega
        simp [h2, h2', h3, h4, wrap64]
  · have h1' : ¬ t = s := fun h => h1 h.symm
    by_cases h3 : s < t
    · have h4 : ¬ t < s := by omega
      simp [h1, h1', h3, h4, wrap64]
    · have h4 : t < s := by omega
      simp [h1, h1', h3, h4, wrap64]

end Go.Proofs.Ytfpnhlfmnoikhaa.Pure
