/- What a reading of an argument says: numbers of 8 bits with a sign. -/
import Derived.Test.YtjjfdamlicoeeaaDoorOpenB
import Derived.Test.YtjjfdamlicoeeaaDoorVecB
set_option linter.unusedVariables false
set_option linter.unusedSimpArgs false
set_option maxRecDepth 100000
namespace Go.Proofs.YtjjfdamlicoeeaaDoor.X
open Go.RowKit Go.ChangeShapes Go.WideShapes
section
variable {H : Type} {enc : TypeId × Value → H} {w : World} {sp : Nat → Bool} {held : Bool}
theorem open_i8 {fuel : Nat} {cs : List Value} {x : DataW H × List MemPlace} (h : DataW.trod enc Tryd.prog w 0 sp held fuel 39 cs = some x)
    (hz : ∀ n ∈ x.1.weights Tryd.prog 39, n ≤ reachBytes) : ∃ (A : Option Addr) (c : Nat) (l : List Int), cs = [.slice A l.length c] ∧ GS w A c (i8v l) ∧ l.length ≤ 140737488351232 ∧ (∀ x ∈ l, -128 ≤ x ∧ x ≤ 127) := by
  rcases open_ints Tryd.underlying39 Tryd.underlying71 (by kernel_rfl) h with ⟨rfl, _⟩ | ⟨a, len, cap, zs, rfl, _, hl, hm, hlen, rfl, hc, hw⟩
  · exact ⟨none, 0, [], rfl, GS.nil w, by simp, by simp⟩
  · have hle : len ≤ zs.length := by rw [hlen]; split <;> omega
    have e1 : Tryd.prog.bytesOf 71 = 1 := by kernel_rfl
    have hz1 : len + (zs.length - len) ≤ reachBytes := by
      have := hz ((len + (zs.length - len)) * 1) (by simp [DataW.weights, Tryd.underlying39, e1, lits, Nat.min_eq_left hle])
      simpa using this
    have el : (zs.take len).length = len := by simp [Nat.min_eq_left hle]
    refine ⟨some a, cap, zs.take len, by rw [el], ⟨by rw [i8v_len, el]; exact hl, by simpa [maxLen] using hm, fun hpos => ?_⟩, by rw [el]; simp only [reachBytes] at hz1; omega, fun x hx => ?_⟩
    · rw [i8v_len, el] at hpos
      have h0 := hc 0 (by omega)
      have hs := spot_none h0
      have ha : a = ⟨a.block, a.off, none⟩ := by
        obtain ⟨b, o, s⟩ := a
        simp [Addr.add] at hs
        subst hs
        rfl
      refine ⟨a.block, a.off, by rw [← ha], fun j hj => ?_⟩
      rw [i8v_len, el] at hj
      rw [cell_add (hc j (by omega))]
      have eg : zs.getD j 0 = zs[j]'(by omega) := by simp [List.getD_eq_getElem?_getD, List.getElem?_eq_getElem (by omega : j < zs.length)]
      simp [i8v, ← eg]
    · have hwz := hw x (List.mem_of_mem_take hx)
      revert hwz
      intro hwz
      simp [Lit.wf, IntKind.bits, IntKind.signed, IntKind.min, IntKind.max] at hwz
      omega
end
end Go.Proofs.YtjjfdamlicoeeaaDoor.X
