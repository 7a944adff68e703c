/- Plain law: the bytes of a right document are elements that are right. -/
import Derived.Test.YtdmnogjgifapnaaDoorDocVal
import Derived.Test.YtdmnogjgifapnaaDoorValLen
import Derived.Test.YtdmnogjgifapnaaDoorDoc9
set_option linter.unusedVariables false
set_option linter.unusedSimpArgs false
set_option maxRecDepth 100000
namespace Go.Proofs.YtdmnogjgifapnaaDoor.X
open Go.RowKit
def elq (x : ByteArray × Val) : UInt8 × List UInt8 × List UInt8 := (ub x.2.kind, bs x.1, docValue x.2)
theorem fl_els : ∀ ks : List (ByteArray × Val), Dv.fl (ks.map elq) = docElems ks
  | [] => rfl
  | (nm, v) :: r => by
    simp only [List.map_cons, Dv.fl, docElems, fl_els r, Dv.elOf, elq, hd]
    simp
theorem right_known {v : Val} {deep : Int} (h : right v deep = true) : 0 ≤ v.kind ∧ v.kind ≤ 255 := by
  obtain ⟨k, t, m, n, bi, hi, b, ks⟩ := v
  show 0 ≤ k ∧ k ≤ 255
  simp only [right, Bool.and_eq_true] at h
  have := h.1.1.1
  simp only [known, decide_eq_true_eq] at this
  omega
theorem els_ok (k : Int) : ∀ (ks : List (ByteArray × Val)) (i : Nat) (deep : Int), rightK k ks i deep = true → (docElems ks).length ≤ 2000000000 → ∀ e ∈ ks.map elq, Dv.okEl e
  | [], i, deep, h, hl => fun e he => by simp at he
  | (nm, v) :: r, i, deep, h, hl => fun e he => by
    simp only [rightK, Bool.and_eq_true] at h
    obtain ⟨⟨⟨h1, h2⟩, h3⟩, h4⟩ := h
    simp only [docElems, List.length_append] at hl
    simp only [List.map_cons, List.mem_cons] at he
    rcases he with rfl | he
    · refine ⟨h1, fun rest => ?_⟩
      have hk := right_known h3
      have hc : ((elq (nm, v)).1.toNat : Int) = v.kind := by
        show ((ub v.kind).toNat : Int) = v.kind
        rw [ub_toNat]; omega
      rw [hc]
      exact valLen_doc v (deep - 1) h3 (by omega) rest
    · exact els_ok k r (i + 1) deep h4 (by omega) e he
theorem leI_i32 (n : Int) (h0 : 0 ≤ n) (h1 : n < 2147483648) : ∃ b0 b1 b2 b3, i32 n = [b0, b1, b2, b3] ∧ leI [b0, b1, b2, b3] = n := by
  refine ⟨_, _, _, _, rfl, ?_⟩
  simp only [leI, ub_toNat]
  omega
theorem right_kids {v : Val} {deep : Int} (h : right v deep = true) (hk : v.kind = 3) : ∃ k, rightK k v.kids 0 deep = true := by
  obtain ⟨k, t, m, n, bi, hi, b, ks⟩ := v
  obtain rfl : k = 3 := hk
  simp only [right, Bool.and_eq_true] at h
  exact ⟨3, show rightK 3 ks 0 deep = true from by simpa using h.2⟩
end Go.Proofs.YtdmnogjgifapnaaDoor.X
