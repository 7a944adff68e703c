/- What a reading of an argument says: texts. -/
import Derived.Test.YtfpnhlfmnoikhabDoorOpenB
import Derived.Test.YtfpnhlfmnoikhabDoorStr
set_option linter.unusedVariables false
set_option linter.unusedSimpArgs false
set_option maxRecDepth 100000
namespace Go.Proofs.YtfpnhlfmnoikhabDoor.X
open Go.RowKit Go.ChangeShapes Go.WideShapes
section
variable {H : Type} {enc : TypeId × Value → H} {w : World} {sp : Nat → Bool} {held : Bool}
theorem weights_all {P : Program} {e : TypeId} : ∀ {ds : List (DataW H)} {d : DataW H}, d ∈ ds → ∀ n ∈ d.weights P e, n ∈ DataW.weightsAll P e ds
  | d0 :: ds, d, hd, n, hn => by
    simp only [DataW.weightsAll, List.mem_append]
    rcases List.mem_cons.1 hd with rfl | hd
    · exact .inl hn
    · exact .inr (weights_all hd n hn)
theorem strs_rows (fuel : Nat) (a : Addr) : ∀ (elems : List (DataW H × List MemPlace)) (i0 : Nat) (hel : ∀ i, i < elems.length → (w.cells? 0 (a.add (i0 + i)) 1).bind (DataW.trod enc Tryd.prog w 0 sp held fuel 9) = elems[i]?)
      (hz : ∀ d ∈ elems, ∀ n ∈ d.1.weights Tryd.prog 9, n ≤ reachBytes),
      ∃ l : List ByteArray, l.length = elems.length ∧ (∀ s ∈ l, s.size ≤ 140737488351232) ∧ (elems ≠ [] → i0 = 0 → a.spot = none) ∧ ∀ j, (h : j < l.length) → w.cell? ⟨a.block, a.off + (i0 + j), none⟩ = some (.string l[j])
  | [], i0, _, _ => ⟨[], rfl, by simp, fun h => absurd rfl h, fun j h => by simp at h⟩
  | d :: r, i0, hel, hz => by
    obtain ⟨l, h1, h2, -, h4⟩ := strs_rows fuel a r (i0 + 1) (fun i hi => by
      have := hel (i + 1) (by simpa using hi)
      rw [show i0 + (i + 1) = i0 + 1 + i from by omega] at this
      simpa using this) (fun d hd => hz d (List.mem_cons_of_mem _ hd))
    have h0 := hel 0 (by simp)
    simp only [List.getElem?_cons_zero, Nat.add_zero, Option.bind_eq_some_iff] at h0
    obtain ⟨cs, hcs, hd⟩ := h0
    obtain ⟨-, hlc, hcc⟩ := World.cells?_some hcs
    match cs, hlc with
    | [c0], _ =>
      obtain ⟨s, hs, hd1, _⟩ := DataW.trod_string Tryd.underlying9 hd
      obtain rfl : c0 = .string s := by simpa using hs
      have hsz : s.size ≤ 140737488351232 := by
        have := hz d List.mem_cons_self s.data.toList.length (by rw [hd1]; simp [DataW.weights])
        simpa [reachBytes] using this
      have c0 := hcc 0 (by omega)
      refine ⟨s :: l, by simp [h1], fun x hx => ?_, fun _ h => ?_, fun j hj => ?_⟩
      · rcases List.mem_cons.1 hx with rfl | hx
        · exact hsz
        · exact h2 x hx
      · subst h
        have := spot_none c0
        simpa [Addr.add] using this
      · match j, hj with
        | 0, _ => simpa using cell_add2 c0
        | j + 1, hj =>
          have := h4 j (by simpa using hj)
          rw [show i0 + (j + 1) = i0 + 1 + j from by omega]
          simpa using this
theorem open_strs {fuel : Nat} {cs : List Value} {x : DataW H × List MemPlace} (h : DataW.trod enc Tryd.prog w 0 sp held fuel 26 cs = some x)
    (hz : ∀ n ∈ x.1.weights Tryd.prog 26, n ≤ reachBytes) : ∃ (A : Option Addr) (c : Nat) (l : List ByteArray), cs = [.slice A l.length c] ∧ GS w A c (strv l) ∧ l.length ≤ 8796093022000 ∧ (∀ s ∈ l, s.size ≤ 140737488351232) := by
  rcases DataW.trod_slice Tryd.underlying26 h with ⟨rfl, _⟩ | ⟨a, len, cap, elems, rest, m, hm, rfl, rfl, _, hlc, hcm, hel, hee, _, _⟩
  · exact ⟨none, 0, [], rfl, GS.nil w, by simp, by simp⟩
  · have e1 : Tryd.prog.bytesOf 9 = 16 := by kernel_rfl
    have ez : (elems.length + rest.length) * Tryd.prog.bytesOf 9 ≤ reachBytes := hz _ (by simp [DataW.weights, Tryd.underlying26])
    rw [e1] at ez
    simp only [reachBytes] at ez
    have zk : ∀ d ∈ elems, ∀ n ∈ d.1.weights Tryd.prog 9, n ≤ reachBytes := fun d hd n' hn' => hz n' (by
      simp only [DataW.weights, Tryd.underlying26]
      exact List.mem_cons_of_mem _ (List.mem_append_left _ (weights_all (List.mem_map_of_mem hd) n' hn')))
    simp only [show Tryd.prog.cellsOf 9 = 1 from by kernel_rfl] at hee
    obtain ⟨l, q1, q2, q3, q4⟩ := strs_rows m a elems 0 (fun i hi => by have := hee i (by omega); simpa using this) zk
    refine ⟨some a, cap, l, by rw [q1, hel], ⟨by rw [strv_len, q1, hel]; exact hlc, by simpa [maxLen] using hcm, fun hp => ?_⟩, by omega, q2⟩
    rw [strv_len] at hp
    have hsn := q3 (fun h => by rw [h] at q1; simp at q1; rw [q1] at hp; simp at hp) rfl
    refine ⟨a.block, a.off, ?_, fun j hj => ?_⟩
    · obtain ⟨b0, o0, s0⟩ := a
      simp at hsn
      subst hsn
      rfl
    · rw [strv_len] at hj
      have := q4 j hj
      simpa [strv] using this
end
end Go.Proofs.YtfpnhlfmnoikhabDoor.X
