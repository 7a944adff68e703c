/- What a reading of an argument says: bytes, values, elements. -/
import Derived.Test.YtohfgfbfohkkkaaGreatDoorWords
import Derived.ChangeSlices
import Derived.ChangeSame
import Derived.SizedLaws
set_option linter.unusedVariables false
set_option linter.unusedSimpArgs false
set_option maxRecDepth 100000
namespace Go.Proofs.YtohfgfbfohkkkaaGreatDoor.X
open Go.RowKit Go.ChangeShapes Go.WideShapes

theorem spot_none {w : World} {a : Addr} {v : Value} (h : w.cell? a = some v) : a.spot = none := by
  unfold World.cell? at h
  split at h
  · split at h
    · cases h
    · rename_i h2; simpa using h2
  · cases h
theorem cell_add {w : World} {a : Addr} {n : Nat} {v : Value} (h : w.cell? (a.add n) = some v) : w.cell? ⟨a.block, a.off + n, none⟩ = some v := by
  have hs := spot_none h
  unfold Addr.add at h hs
  split at h
  · rename_i h0
    subst h0
    obtain ⟨b, o, s⟩ := a
    simp at hs
    subst hs
    simpa using h
  · exact h
theorem cell_add2 {w : World} {a : Addr} {n m : Nat} {v : Value} (h : w.cell? ((a.add n).add m) = some v) : w.cell? ⟨a.block, a.off + n + m, none⟩ = some v := by
  have h1 := cell_add h
  have e1 : (a.add n).block = a.block := by unfold Addr.add; split <;> rfl
  have e2 : (a.add n).off = a.off + n := by unfold Addr.add; split <;> simp_all
  rw [e1, e2] at h1
  exact h1

section
variable {H : Type} {enc : TypeId × Value → H} {w : World} {sp : Nat → Bool} {held : Bool}

theorem open_bytes {fuel : Nat} {cs : List Value} {x : DataW H × List MemPlace} (h : DataW.trod enc Tryz.prog w 0 sp held fuel 22 cs = some x)
    (hz : ∀ n ∈ x.1.weights Tryz.prog 22, n ≤ reachBytes) : ∃ A c l, cs = [.slice A l.length c] ∧ SB w A c l ∧ l.length ≤ 140737488351232 := by
  rcases open_ints Tryz.underlying22 Tryz.underlying5 (by kernel_rfl) h with ⟨rfl, _⟩ | ⟨a, len, cap, zs, rfl, _, hl, hm, hlen, rfl, hc, hw⟩
  · exact ⟨none, 0, [], rfl, SB.nil w, by simp⟩
  · have hle : len ≤ zs.length := by rw [hlen]; split <;> omega
    have e1 : Tryz.prog.bytesOf 5 = 1 := by kernel_rfl
    have hz1 : len + (zs.length - len) ≤ reachBytes := by
      have := hz ((len + (zs.length - len)) * 1) (by simp [DataW.weights, Tryz.underlying22, e1, lits, Nat.min_eq_left hle])
      simpa using this
    have el : ((zs.take len).map fun z => UInt8.ofNat z.toNat).length = len := by simp [Nat.min_eq_left hle]
    refine ⟨some a, cap, (zs.take len).map fun z => UInt8.ofNat z.toNat, by rw [el], ⟨by rw [el]; exact hl, by simpa [maxLen] using hm, fun hpos => ?_⟩, by rw [el]; simp only [reachBytes] at hz1; omega⟩
    rw [el] at hpos
    have h0 := hc 0 (by omega)
    have hs := spot_none h0
    have ha : a = ⟨a.block, a.off, none⟩ := by
      obtain ⟨b, o, s⟩ := a
      simp [Addr.add] at hs
      subst hs
      rfl
    refine ⟨a.block, a.off, by rw [← ha], fun j hj => ?_⟩
    rw [el] at hj
    rw [cell_add (hc j (by omega))]
    have hwz := hw (zs.getD j 0) (by rw [List.getD_eq_getElem?_getD, List.getElem?_eq_getElem (by omega : j < zs.length)]; simp)
    have hb : 0 ≤ zs.getD j 0 ∧ zs.getD j 0 ≤ 255 := by
      revert hwz
      generalize zs.getD j 0 = z
      intro hwz
      simp [Lit.wf, IntKind.bits, IntKind.signed, IntKind.min, IntKind.max] at hwz
      omega
    have eg : zs.getD j 0 = zs[j]'(by omega) := by simp [List.getD_eq_getElem?_getD, List.getElem?_eq_getElem (by omega : j < zs.length)]
    simp only [List.getElem_map, List.getElem_take, ← eg]
    rw [UInt8.toNat_ofNat']
    congr 2
    omega

/-- The weights of a part. -/
theorem part_weights {t : TypeId} {fs : Array Field} (ht : Tryz.prog.underlying t = some (.struct fs)) {xs : List (DataW H × List MemPlace)} (hz : ∀ n ∈ (DataW.agg (xs.map (·.1))).weights Tryz.prog t, n ≤ reachBytes) (i : Nat) (f : Field) (y : DataW H × List MemPlace)
    (hf : fs[i]? = some f) (hy : xs[i]? = some y) : ∀ n ∈ y.1.weights Tryz.prog f.type, n ≤ reachBytes := fun n hn =>
  hz n (by
    simp only [DataW.weights, ht]
    exact DataW.weights_mem_each (j := i) (by simp [hf]) (by simp [hy]) n hn)
theorem weights_mem_all {P : Program} {e : TypeId} : ∀ {ds : List (DataW H)} {d : DataW H}, d ∈ ds → ∀ n ∈ d.weights P e, n ∈ DataW.weightsAll P e ds
  | d0 :: ds, d, hd, n, hn => by
    simp only [DataW.weightsAll, List.mem_append]
    rcases List.mem_cons.1 hd with rfl | hd
    · exact .inl hn
    · exact .inr (weights_mem_all hd n hn)

theorem open_str {fuel : Nat} {c : Value} {x : DataW H × List MemPlace} (h : DataW.trod enc Tryz.prog w 0 sp held fuel 9 [c] = some x) (hz : ∀ n ∈ x.1.weights Tryz.prog 9, n ≤ reachBytes) :
    ∃ s : ByteArray, c = .string s ∧ s.size ≤ 140737488351232 := by
  obtain ⟨s, hs, rfl, _⟩ := DataW.trod_string Tryz.underlying9 h
  refine ⟨s, by simpa using hs, ?_⟩
  have := hz s.data.toList.length (by simp [DataW.weights])
  simpa [reachBytes] using this

theorem wf_int {k : IntKind} {n : Int} (h : (Lit.int k n).wf = true) : match k with | .i64 => (-9223372036854775808 ≤ n ∧ n ≤ 9223372036854775807) | .u64 => (0 ≤ n ∧ n ≤ 18446744073709551615) | _ => True := by
  cases k <;> first | trivial | (simp [Lit.wf, IntKind.bits, IntKind.signed, IntKind.min, IntKind.max] at h ⊢; omega)

theorem open_raw {cs : Array Value} {d : DataW H} {ps : List MemPlace} (h : DataW.Trod enc Tryz.prog w 0 sp held 37 (.agg cs) d ps) (hz : ∀ n ∈ d.weights Tryz.prog 37, n ≤ reachBytes) :
    ∃ k A c l, cs = #[.int .i64 k, .slice A l.length c] ∧ SB w A c l ∧ l.length ≤ 140737488351232 ∧ (-9223372036854775808 ≤ k ∧ k ≤ 9223372036854775807) := by
  obtain ⟨fuel, hf⟩ := h
  obtain ⟨xs, n, hn, hx, hl, hxl, hff⟩ := DataW.trod_struct Tryz.underlying37 hf
  obtain ⟨rfl, -⟩ := Prod.mk.inj hx
  have hl2 : cs.toList.length = 2 := by rw [show cs.toList = (Value.agg cs).cells.toList from rfl, hl]; kernel_rfl
  obtain ⟨cs⟩ := cs
  match xs, hxl, cs, hl2 with
  | [y0, y1], _, [c0, c1], _ =>
    have h0 := hff 0 _ rfl
    have h1 := hff 1 _ rfl
    simp only [List.getElem_toArray, List.getElem_cons_zero, List.getElem_cons_succ, Value.cells] at h0 h1
    simp only [show Tryz.prog.cellsOf 3 = 1 from by kernel_rfl, show Tryz.prog.cellsOf 22 = 1 from by kernel_rfl] at h0 h1
    simp only [List.drop_zero, List.drop_succ_cons, List.take_succ_cons, List.take_zero, List.getElem?_cons_zero, List.getElem?_cons_succ] at h0 h1
    obtain ⟨k, e0, -, w0⟩ := DataW.trod_int Tryz.underlying3 h0
    obtain ⟨A, c, b, e1, hs, w1⟩ := open_bytes h1 (part_weights (xs := [y0, y1]) Tryz.underlying37 hz 1 _ y1 rfl rfl)
    simp only [List.cons.injEq, and_true] at e0 e1
    subst e0 e1
    exact ⟨k, A, c, b, rfl, hs, w1, wf_int w0⟩
end
end Go.Proofs.YtohfgfbfohkkkaaGreatDoor.X
