/- What a reading of an argument says: lists of elements, lists of values. No conditions. -/
import Derived.Test.YtjbeaofnnodlcaaGreatDoorOpen
set_option linter.unusedVariables false
set_option linter.unusedSimpArgs false
set_option maxRecDepth 100000
namespace Go.Proofs.YtjbeaofnnodlcaaGreatDoor.X
open Go.RowKit Go.ChangeShapes Go.WideShapes

/-- The cells of values, eight for each, from an address on. -/
def RVs (w : World) (blk : Nat) : Nat → List Val → Prop
  | _, [] => True
  | off, v :: r => (∃ cs, RV w v cs ∧ ∀ j, (h : j < cs.length) → w.cell? ⟨blk, off + j, none⟩ = some cs[j]) ∧ RVs w blk (off + 8) r
theorem RVs.keep {w w1 : World} (hb : Below w.heap.size w w1) : ∀ {vs : List Val} {blk off : Nat}, RVs w blk off vs → RVs w1 blk off vs
  | [], _, _, _ => by simp only [RVs]
  | v :: r, blk, off, h => by
    simp only [RVs] at h ⊢
    obtain ⟨⟨cs, h1, h3⟩, h4⟩ := h
    exact ⟨⟨cs, RV.keep hb h1, fun j hj => (hb.cell (World.block_lt_of_cell? w _ (h3 j hj))).trans (h3 j hj)⟩, RVs.keep hb h4⟩
theorem RVs.at_ {w : World} {blk : Nat} : ∀ {vs : List Val} {off : Nat}, RVs w blk off vs → ∀ i, (h : i < vs.length) →
    ∃ cs, RV w vs[i] cs ∧ ∀ j, (h : j < cs.length) → w.cell? ⟨blk, off + i * 8 + j, none⟩ = some cs[j]
  | v :: r, off, h, 0, _ => by
    simp only [RVs] at h
    simpa using h.1
  | v :: r, off, h, i + 1, hi => by
    simp only [RVs] at h
    have := RVs.at_ h.2 i (by simpa using hi)
    simp only [List.getElem_cons_succ]
    rw [show off + (i + 1) * 8 = off + 8 + i * 8 from by omega]
    exact this
/-- The same, each cell told alone. -/
theorem RVs.cells_ {w : World} {blk : Nat} {vs : List Val} {off : Nat} (hk : RVs w blk off vs) (i : Nat) (h : i < vs.length) :
    ∃ c0 c1 c2 c3 c4 c5 c6 c7, RV w vs[i] [c0, c1, c2, c3, c4, c5, c6, c7] ∧ w.cell? ⟨blk, off + i * 8, none⟩ = some c0 ∧ w.cell? ⟨blk, off + i * 8 + 1, none⟩ = some c1 ∧
      w.cell? ⟨blk, off + i * 8 + 2, none⟩ = some c2 ∧ w.cell? ⟨blk, off + i * 8 + 3, none⟩ = some c3 ∧ w.cell? ⟨blk, off + i * 8 + 4, none⟩ = some c4 ∧ w.cell? ⟨blk, off + i * 8 + 5, none⟩ = some c5 ∧
      w.cell? ⟨blk, off + i * 8 + 6, none⟩ = some c6 ∧ w.cell? ⟨blk, off + i * 8 + 7, none⟩ = some c7 := by
  obtain ⟨cs, hv, hc⟩ := hk.at_ i h
  have hl := hv.len
  match cs, hl with
  | [c0, c1, c2, c3, c4, c5, c6, c7], _ =>
    exact ⟨c0, c1, c2, c3, c4, c5, c6, c7, hv, hc 0 (by simp), hc 1 (by simp), hc 2 (by simp), hc 3 (by simp), hc 4 (by simp), hc 5 (by simp), hc 6 (by simp), hc 7 (by simp)⟩
/-- What is known of a list of elements that was handed in. -/
def ElemsAt (w : World) (K : Option Addr) (d : Nat) (ks : List (ByteArray × Val)) : Prop :=
  ks.length ≤ d ∧ d ≤ 9223372036854775807 ∧ (ks = [] ∨ ∃ blk off, K = some ⟨blk, off, none⟩ ∧ RKs w blk off ks) ∧ okK ks ∧ ks.length ≤ 140737488351232
/-- What is known of a list of values that was handed in. -/
def ValsAt (w : World) (K : Option Addr) (d : Nat) (vs : List Val) : Prop :=
  vs.length ≤ d ∧ d ≤ 9223372036854775807 ∧ (vs = [] ∨ ∃ blk off, K = some ⟨blk, off, none⟩ ∧ RVs w blk off vs) ∧ (∀ v ∈ vs, okv v) ∧ vs.length ≤ 140737488351232

section
variable {H : Type} {enc : TypeId × Value → H} {w : World} {sp : Nat → Bool} {held : Bool}
theorem open_elems {fuel : Nat} {cs : List Value} {x : DataW H × List MemPlace} (h : DataW.trod enc Tryz.prog w 0 sp held fuel 28 cs = some x)
    (hz : ∀ n ∈ x.1.weights Tryz.prog 28, n ≤ reachBytes) : ∃ K d ks, cs = [.slice K ks.length d] ∧ ElemsAt w K d ks := by
  rcases DataW.trod_slice Tryz.underlying28 h with ⟨rfl, _⟩ | ⟨a, len, cap, elems, rest, m, hm, rfl, rfl, _, hlc, hcm, hel, hee, _, _⟩
  · exact ⟨none, 0, [], rfl, Nat.le_refl _, by omega, .inl rfl, by simp only [okK], by simp⟩
  · simp only [show Tryz.prog.cellsOf 39 = 9 from by kernel_rfl] at hee
    have ez : (elems.length + rest.length) * Tryz.prog.bytesOf 39 ≤ reachBytes := hz _ (by simp [DataW.weights, Tryz.underlying28])
    rw [show Tryz.prog.bytesOf 39 = 128 from by kernel_rfl] at ez
    have zk : ∀ d ∈ elems, ∀ n ∈ d.1.weights Tryz.prog 39, n ≤ reachBytes := fun d hd n' hn' => hz n' (by
      simp only [DataW.weights, Tryz.underlying28]
      exact List.mem_cons_of_mem _ (List.mem_append_left _ (weights_mem_all (List.mem_map_of_mem hd) n' hn')))
    have hkids : ∃ ks : List (ByteArray × Val), ks.length = elems.length ∧ okK ks ∧ (elems ≠ [] → a.spot = none) ∧ RKs w a.block a.off ks := by
      match m, elems, hel with
      | 0, [], _ => exact ⟨[], rfl, by simp only [okK], fun h => absurd rfl h, by simp only [RKs]⟩
      | 0, d :: r, hel =>
        exfalso
        have := hee 0 (by rw [← hel]; simp)
        simp only [List.getElem?_cons_zero, Option.bind_eq_some_iff] at this
        obtain ⟨_, _, hd⟩ := this
        simp [DataW.trod] at hd
      | m + 1, elems, hel =>
        obtain ⟨ks, q1, q2, q3, q4⟩ := open_kids m (fun cs x hx hzx => open_val_upto (m + 1) m (by omega) cs x hx hzx) a elems 0 (fun i hi => by rw [Nat.zero_add]; exact hee i (by omega)) zk
        exact ⟨ks, q1, q2, fun h => q3 h rfl, by simpa using q4⟩
    obtain ⟨ks, q1, q2, q3, q4⟩ := hkids
    simp only [reachBytes] at ez
    refine ⟨some a, cap, ks, by rw [q1, hel], by omega, by simpa [maxLen] using hcm, ?_, q2, by omega⟩
    by_cases hk : ks = []
    · exact .inl hk
    · have hsn := q3 (fun h => hk (List.eq_nil_of_length_eq_zero (by rw [q1, h]; rfl)))
      refine .inr ⟨a.block, a.off, ?_, q4⟩
      obtain ⟨b0, o0, s0⟩ := a
      simp at hsn
      subst hsn
      rfl
theorem open_valrows (m : Nat) (a : Addr) :
    ∀ (elems : List (DataW H × List MemPlace)) (i0 : Nat) (hel : ∀ i, i < elems.length → (w.cells? 0 (a.add ((i0 + i) * 8)) 8).bind (DataW.trod enc Tryz.prog w 0 sp held m 32) = elems[i]?)
      (hz : ∀ d ∈ elems, ∀ n ∈ d.1.weights Tryz.prog 32, n ≤ reachBytes),
      ∃ vs : List Val, vs.length = elems.length ∧ (∀ v ∈ vs, okv v) ∧ (elems ≠ [] → i0 = 0 → a.spot = none) ∧ RVs w a.block (a.off + i0 * 8) vs
  | [], i0, _, _ => ⟨[], rfl, by simp, fun h => absurd rfl h, by simp only [RVs]⟩
  | d :: r, i0, hel, hz => by
    obtain ⟨vs, hkl, hko, -, hkr⟩ := open_valrows m a r (i0 + 1) (fun i hi => by
      have := hel (i + 1) (by simpa using hi)
      rw [show i0 + (i + 1) = i0 + 1 + i from by omega] at this
      simpa using this) (fun d hd => hz d (List.mem_cons_of_mem _ hd))
    have h0 := hel 0 (by simp)
    simp only [List.getElem?_cons_zero, Nat.add_zero, Option.bind_eq_some_iff] at h0
    obtain ⟨cs, hcs, hd⟩ := h0
    obtain ⟨-, hlc, hcc⟩ := World.cells?_some hcs
    obtain ⟨v, hv, hok⟩ := open_val_upto (m + 1) m (by omega) cs d hd (hz _ List.mem_cons_self)
    have hl8 := hv.len
    have hg : ∀ j (hj : j < cs.length), w.cell? ((a.add (i0 * 8)).add j) = some cs[j] := fun j hj => by
      have := hcc j (by omega)
      rw [List.getElem?_eq_getElem hj] at this
      exact this
    refine ⟨v :: vs, by simp [hkl], fun x hx => by rcases List.mem_cons.1 hx with rfl | hx; exact hok; exact hko x hx, fun _ h => ?_, ?_⟩
    · subst h
      have := spot_none (hg 0 (by omega))
      simpa [Addr.add] using this
    · simp only [RVs]
      refine ⟨⟨cs, hv, fun j hj => ?_⟩, ?_⟩
      · have := cell_add2 (hg j hj)
        exact this
      · rw [show a.off + i0 * 8 + 8 = a.off + (i0 + 1) * 8 from by omega]
        exact hkr
theorem open_vals {fuel : Nat} {cs : List Value} {x : DataW H × List MemPlace} (h : DataW.trod enc Tryz.prog w 0 sp held fuel 29 cs = some x)
    (hz : ∀ n ∈ x.1.weights Tryz.prog 29, n ≤ reachBytes) : ∃ K d vs, cs = [.slice K vs.length d] ∧ ValsAt w K d vs := by
  rcases DataW.trod_slice Tryz.underlying29 h with ⟨rfl, _⟩ | ⟨a, len, cap, elems, rest, m, hm, rfl, rfl, _, hlc, hcm, hel, hee, _, _⟩
  · exact ⟨none, 0, [], rfl, Nat.le_refl _, by omega, .inl rfl, by simp, by simp⟩
  · simp only [show Tryz.prog.cellsOf 32 = 8 from by kernel_rfl] at hee
    have ez : (elems.length + rest.length) * Tryz.prog.bytesOf 32 ≤ reachBytes := hz _ (by simp [DataW.weights, Tryz.underlying29])
    rw [show Tryz.prog.bytesOf 32 = 112 from by kernel_rfl] at ez
    have zk : ∀ d ∈ elems, ∀ n ∈ d.1.weights Tryz.prog 32, n ≤ reachBytes := fun d hd n' hn' => hz n' (by
      simp only [DataW.weights, Tryz.underlying29]
      exact List.mem_cons_of_mem _ (List.mem_append_left _ (weights_mem_all (List.mem_map_of_mem hd) n' hn')))
    obtain ⟨vs, q1, q2, q3, q4⟩ := open_valrows m a elems 0 (fun i hi => by rw [Nat.zero_add]; exact hee i (by omega)) zk
    simp only [reachBytes] at ez
    refine ⟨some a, cap, vs, by rw [q1, hel], by omega, by simpa [maxLen] using hcm, ?_, q2, by omega⟩
    by_cases hk : vs = []
    · exact .inl hk
    · have hsn := q3 (fun h => hk (List.eq_nil_of_length_eq_zero (by rw [q1, h]; rfl))) rfl
      refine .inr ⟨a.block, a.off, ?_, by simpa using q4⟩
      obtain ⟨b0, o0, s0⟩ := a
      simp at hsn
      subst hsn
      rfl
end
end Go.Proofs.YtjbeaofnnodlcaaGreatDoor.X
