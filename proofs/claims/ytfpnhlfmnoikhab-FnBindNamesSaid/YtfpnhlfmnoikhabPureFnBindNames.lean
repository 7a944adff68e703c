/- Different kinds have different names, and each kind has some: for every two bytes. No conditions. -/
import Derived.Test.YtfpnhlfmnoikhabPFnBindNamesx1
import Derived.OpenShut
namespace Go.Proofs.Ytfpnhlfmnoikhab.Pure
open Go.RowKit Go.Proofs.Ytfpnhlfmnoikhab.PFnBindNames Go.Proofs.YtfpnhlfmnoikhabW.PrintWords Go.Proofs.YtfpnhlfmnoikhabW.PrintLast

def names : List (List UInt8 × Int) :=
  [([100, 111, 117, 98, 108, 101], 1), ([115, 116, 114, 105, 110, 103], 2), ([101, 109, 98, 101, 100, 100, 101, 100, 32, 100, 111, 99, 117, 109, 101, 110, 116], 3), ([97, 114, 114, 97, 121], 4), ([98, 105, 110, 97, 114, 121], 5),
   ([117, 110, 100, 101, 102, 105, 110, 101, 100], 6), ([111, 98, 106, 101, 99, 116, 73, 68], 7), ([98, 111, 111, 108, 101, 97, 110], 8), ([85, 84, 67, 32, 100, 97, 116, 101, 116, 105, 109, 101], 9), ([110, 117, 108, 108], 10),
   ([114, 101, 103, 101, 120], 11), ([100, 98, 80, 111, 105, 110, 116, 101, 114], 12), ([106, 97, 118, 97, 115, 99, 114, 105, 112, 116], 13), ([115, 121, 109, 98, 111, 108], 14), ([99, 111, 100, 101, 32, 119, 105, 116, 104, 32, 115, 99, 111, 112, 101], 15),
   ([51, 50, 45, 98, 105, 116, 32, 105, 110, 116, 101, 103, 101, 114], 16), ([116, 105, 109, 101, 115, 116, 97, 109, 112], 17), ([54, 52, 45, 98, 105, 116, 32, 105, 110, 116, 101, 103, 101, 114], 18), ([49, 50, 56, 45, 98, 105, 116, 32, 100, 101, 99, 105, 109, 97, 108], 19), ([109, 97, 120, 32, 107, 101, 121], 127), ([109, 105, 110, 32, 107, 101, 121], 255)]

def code (l : List UInt8) : Int := (names.lookup l).getD 0

theorem known (a : Int) (h : spec_DocKnown.f a = some true) : a = 1 ∨ a = 2 ∨ a = 3 ∨ a = 4 ∨ a = 5 ∨ a = 6 ∨ a = 7 ∨ a = 8 ∨ a = 9 ∨ a = 10 ∨ a = 11 ∨ a = 12 ∨ a = 13 ∨ a = 14 ∨ a = 15 ∨ a = 16 ∨ a = 17 ∨ a = 18 ∨ a = 19 ∨ a = 127 ∨ a = 255 := by
  unfold spec_DocKnown.f at h
  by_cases h1 : a = 255
  · omega
  · by_cases h2 : a = 127
    · omega
    · rw [if_neg h1] at h
      split at h
      · split at h
        · omega
        · simp [h2] at h
      · simp [h2] at h

theorem toList_mk (l : List UInt8) : (⟨l.toArray⟩ : ByteArray).toList = l := by
  simp

theorem named (a : Int) (h : spec_DocKnown.f a = some true) : ∃ l, impl_KindText.f a = some ⟨List.toArray l⟩ ∧ l ≠ [] ∧ code l = a := by
  have h' := known a h
  rcases h' with rfl | rfl | rfl | rfl | rfl | rfl | rfl | rfl | rfl | rfl | rfl | rfl | rfl | rfl | rfl | rfl | rfl | rfl | rfl | rfl | rfl <;>
    exact ⟨_, rfl, by simp, by decide⟩

theorem FnBindNames : laws_FnBindNames.Pure := by
  intro a b wa wb
  have ha := bounds_u8 wa
  have hb := bounds_u8 wb
  have ea : wrap64 a = a := by unfold wrap64; omega
  have eb : wrap64 b = b := by unfold wrap64; omega
  refine ⟨1, ?_⟩
  have ka : ∃ t, spec_DocKnown.f a = some t := by unfold spec_DocKnown.f; repeat' split
                                                  all_goals exact ⟨_, rfl⟩
  have kb : ∃ t, spec_DocKnown.f b = some t := by unfold spec_DocKnown.f; repeat' split
                                                  all_goals exact ⟨_, rfl⟩
  obtain ⟨ta, ka⟩ := ka
  obtain ⟨tb, kb⟩ := kb
  simp only [laws_FnBindNames.f, laws_FnBindNames.j0, ea, eb, ka, kb, Option.bind_some]
  cases ta with
  | false => simp
  | true =>
    cases tb with
    | false => simp
    | true =>
      obtain ⟨l, hl, hn, hc⟩ := named a ka
      obtain ⟨m, hm, hn', hc'⟩ := named b kb
      simp only [hl, hm, Option.bind_some, toList_mk]
      by_cases e : l = m
      · subst e
        have : a = b := by rw [← hc, ← hc']
        subst this
        simp [hn]
      · have : a ≠ b := by
          intro hab; subst hab
          exact e (by rw [hl] at hm; simpa using hm)
        have e1 : (l == m) = false := by simpa using e
        have e2 : (a == b) = false := by simpa using this
        rw [if_neg hn, e1, e2]
        rfl

end Go.Proofs.Ytfpnhlfmnoikhab.Pure
