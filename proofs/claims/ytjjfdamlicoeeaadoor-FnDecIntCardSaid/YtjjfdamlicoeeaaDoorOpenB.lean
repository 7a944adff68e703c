/- What a reading of bytes as an argument says. -/
import Derived.Test.YtjjfdamlicoeeaaDoorWords
import Derived.ChangeSlices
import Derived.ChangeSame
import Derived.SizedLaws
set_option linter.unusedVariables false
set_option linter.unusedSimpArgs false
set_option maxRecDepth 100000
namespace Go.Proofs.YtjjfdamlicoeeaaDoor.X
open Go.RowKit Go.ChangeShapes Go.WideShapes

theorem spot_none {w : World} {a : Addr} {v : Value} (h : w.cell? a = some v) : a.spot = none := by
  unfold World.cell? at h
  split at h
  · split at h
    · cases h
    · rename_i h2; simpa using h2
  · cases h
theorem cell_add {w : World} {a : Addr} {n : Nat} {v : Value} (h : w.cell? (a.add n) = some v) : w.cell? ⟨a.block, a.off + n, none⟩ = some v := by
  have hs := spot_none h
  unfold Addr.add at h hs
  split at h
  · rename_i h0
    subst h0
    obtain ⟨b, o, s⟩ := a
    simp at hs
    subst hs
    simpa using h
  · exact h
theorem cell_add2 {w : World} {a : Addr} {n m : Nat} {v : Value} (h : w.cell? ((a.add n).add m) = some v) : w.cell? ⟨a.block, a.off + n + m, none⟩ = some v := by
  have h1 := cell_add h
  have e1 : (a.add n).block = a.block := by unfold Addr.add; split <;> rfl
  have e2 : (a.add n).off = a.off + n := by unfold Addr.add; split <;> simp_all
  rw [e1, e2] at h1
  exact h1

section
variable {H : Type} {enc : TypeId × Value → H} {w : World} {sp : Nat → Bool} {held : Bool}

theorem open_bytes {fuel : Nat} {cs : List Value} {x : DataW H × List MemPlace} (h : DataW.trod enc Tryd.prog w 0 sp held fuel 38 cs = some x)
    (hz : ∀ n ∈ x.1.weights Tryd.prog 38, n ≤ reachBytes) : ∃ A c l, cs = [.slice A l.length c] ∧ SB w A c l ∧ l.length ≤ 140737488351232 := by
  rcases open_ints Tryd.underlying38 Tryd.underlying5 (by kernel_rfl) h with ⟨rfl, _⟩ | ⟨a, len, cap, zs, rfl, _, hl, hm, hlen, rfl, hc, hw⟩
  · exact ⟨none, 0, [], rfl, SB.nil w, by simp⟩
  · have hle : len ≤ zs.length := by rw [hlen]; split <;> omega
    have e1 : Tryd.prog.bytesOf 5 = 1 := by kernel_rfl
    have hz1 : len + (zs.length - len) ≤ reachBytes := by
      have := hz ((len + (zs.length - len)) * 1) (by simp [DataW.weights, Tryd.underlying38, e1, lits, Nat.min_eq_left hle])
      simpa using this
    have el : ((zs.take len).map fun z => UInt8.ofNat z.toNat).length = len := by simp [Nat.min_eq_left hle]
    refine ⟨some a, cap, (zs.take len).map fun z => UInt8.ofNat z.toNat, by rw [el], ⟨by rw [el]; exact hl, by simpa [maxLen] using hm, fun hpos => ?_⟩, by rw [el]; simp only [reachBytes] at hz1; omega⟩
    rw [el] at hpos
    have h0 := hc 0 (by omega)
    have hs := spot_none h0
    have ha : a = ⟨a.block, a.off, none⟩ := by
      obtain ⟨b, o, s⟩ := a
      simp [Addr.add] at hs
      subst hs
      rfl
    refine ⟨a.block, a.off, by rw [← ha], fun j hj => ?_⟩
    rw [el] at hj
    rw [cell_add (hc j (by omega))]
    have hwz := hw (zs.getD j 0) (by rw [List.getD_eq_getElem?_getD, List.getElem?_eq_getElem (by omega : j < zs.length)]; simp)
    have hb : 0 ≤ zs.getD j 0 ∧ zs.getD j 0 ≤ 255 := by
      revert hwz
      generalize zs.getD j 0 = z
      intro hwz
      simp [Lit.wf, IntKind.bits, IntKind.signed, IntKind.min, IntKind.max] at hwz
      omega
    have eg : zs.getD j 0 = zs[j]'(by omega) := by simp [List.getD_eq_getElem?_getD, List.getElem?_eq_getElem (by omega : j < zs.length)]
    simp only [List.getElem_map, List.getElem_take, ← eg]
    rw [UInt8.toNat_ofNat']
    congr 2
    omega

end
theorem wf_int {k : IntKind} {n : Int} (h : (Lit.int k n).wf = true) : match k with | .i64 => (-9223372036854775808 ≤ n ∧ n ≤ 9223372036854775807) | .u64 => (0 ≤ n ∧ n ≤ 18446744073709551615) | _ => True := by
  cases k <;> first | trivial | (simp [Lit.wf, IntKind.bits, IntKind.signed, IntKind.min, IntKind.max] at h ⊢; omega)
end Go.Proofs.YtjjfdamlicoeeaaDoor.X
