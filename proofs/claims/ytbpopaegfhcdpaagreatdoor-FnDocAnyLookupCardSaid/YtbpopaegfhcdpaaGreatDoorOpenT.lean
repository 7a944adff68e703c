/- Put together: OpenB, Str, OpenS. -/
import Derived.Test.YtbpopaegfhcdpaaGreatDoorWords
import Derived.ChangeSlices
import Derived.ChangeSame
import Derived.SizedLaws
import Derived.Test.YtbpopaegfhcdpaaGreatDoorGen
import Derived.Test.YtbpopaegfhcdpaaGreatDoorPSpec
/- What a reading of bytes as an argument says. -/
set_option linter.unusedVariables false
set_option linter.unusedSimpArgs false
set_option maxRecDepth 100000
namespace Go.Proofs.YtbpopaegfhcdpaaGreatDoor.X
open Go.RowKit Go.ChangeShapes Go.WideShapes

theorem spot_none {w : World} {a : Addr} {v : Value} (h : w.cell? a = some v) : a.spot = none := by
  unfold World.cell? at h
  split at h
  · split at h
    · cases h
    · rename_i h2; simpa using h2
  · cases h
theorem cell_add {w : World} {a : Addr} {n : Nat} {v : Value} (h : w.cell? (a.add n) = some v) : w.cell? ⟨a.block, a.off + n, none⟩ = some v := by
  have hs := spot_none h
  unfold Addr.add at h hs
  split at h
  · rename_i h0
    subst h0
    obtain ⟨b, o, s⟩ := a
    simp at hs
    subst hs
    simpa using h
  · exact h
theorem cell_add2 {w : World} {a : Addr} {n m : Nat} {v : Value} (h : w.cell? ((a.add n).add m) = some v) : w.cell? ⟨a.block, a.off + n + m, none⟩ = some v := by
  have h1 := cell_add h
  have e1 : (a.add n).block = a.block := by unfold Addr.add; split <;> rfl
  have e2 : (a.add n).off = a.off + n := by unfold Addr.add; split <;> simp_all
  rw [e1, e2] at h1
  exact h1

section
variable {H : Type} {enc : TypeId × Value → H} {w : World} {sp : Nat → Bool} {held : Bool}

theorem open_bytes {fuel : Nat} {cs : List Value} {x : DataW H × List MemPlace} (h : DataW.trod enc Tryz.prog w 0 sp held fuel 22 cs = some x)
    (hz : ∀ n ∈ x.1.weights Tryz.prog 22, n ≤ reachBytes) : ∃ A c l, cs = [.slice A l.length c] ∧ SB w A c l ∧ l.length ≤ 140737488351232 := by
  rcases open_ints Tryz.underlying22 Tryz.underlying5 (by kernel_rfl) h with ⟨rfl, _⟩ | ⟨a, len, cap, zs, rfl, _, hl, hm, hlen, rfl, hc, hw⟩
  · exact ⟨none, 0, [], rfl, SB.nil w, by simp⟩
  · have hle : len ≤ zs.length := by rw [hlen]; split <;> omega
    have e1 : Tryz.prog.bytesOf 5 = 1 := by kernel_rfl
    have hz1 : len + (zs.length - len) ≤ reachBytes := by
      have := hz ((len + (zs.length - len)) * 1) (by simp [DataW.weights, Tryz.underlying22, e1, lits, Nat.min_eq_left hle])
      simpa using this
    have el : ((zs.take len).map fun z => UInt8.ofNat z.toNat).length = len := by simp [Nat.min_eq_left hle]
    refine ⟨some a, cap, (zs.take len).map fun z => UInt8.ofNat z.toNat, by rw [el], ⟨by rw [el]; exact hl, by simpa [maxLen] using hm, fun hpos => ?_⟩, by rw [el]; simp only [reachBytes] at hz1; omega⟩
    rw [el] at hpos
    have h0 := hc 0 (by omega)
    have hs := spot_none h0
    have ha : a = ⟨a.block, a.off, none⟩ := by
      obtain ⟨b, o, s⟩ := a
      simp [Addr.add] at hs
      subst hs
      rfl
    refine ⟨a.block, a.off, by rw [← ha], fun j hj => ?_⟩
    rw [el] at hj
    rw [cell_add (hc j (by omega))]
    have hwz := hw (zs.getD j 0) (by rw [List.getD_eq_getElem?_getD, List.getElem?_eq_getElem (by omega : j < zs.length)]; simp)
    have hb : 0 ≤ zs.getD j 0 ∧ zs.getD j 0 ≤ 255 := by
      revert hwz
      generalize zs.getD j 0 = z
      intro hwz
      simp [Lit.wf, IntKind.bits, IntKind.signed, IntKind.min, IntKind.max] at hwz
      omega
    have eg : zs.getD j 0 = zs[j]'(by omega) := by simp [List.getD_eq_getElem?_getD, List.getElem?_eq_getElem (by omega : j < zs.length)]
    simp only [List.getElem_map, List.getElem_take, ← eg]
    rw [UInt8.toNat_ofNat']
    congr 2
    omega

end
theorem wf_int {k : IntKind} {n : Int} (h : (Lit.int k n).wf = true) : match k with | .i64 => (-9223372036854775808 ≤ n ∧ n ≤ 9223372036854775807) | .u64 => (0 ≤ n ∧ n ≤ 18446744073709551615) | _ => True := by
  cases k <;> first | trivial | (simp [Lit.wf, IntKind.bits, IntKind.signed, IntKind.min, IntKind.max] at h ⊢; omega)
end Go.Proofs.YtbpopaegfhcdpaaGreatDoor.X


/- Lists of texts as arguments; the laws' tests of their sizes give an answer. -/
set_option linter.unusedVariables false
set_option linter.unusedSimpArgs false
set_option maxRecDepth 100000
namespace Go.Proofs.YtbpopaegfhcdpaaGreatDoor.X
open Go.RowKit Go.Proofs.YtbpopaegfhcdpaaGreatDoorW.PrintWords
open Go.Proofs.YtbpopaegfhcdpaaGreatDoor.PFnDocAnyLookup
def strv (l : List ByteArray) : List Value := l.map .string
theorem strv_len (l : List ByteArray) : (strv l).length = l.length := by simp [strv]
theorem strv_one (l : List ByteArray) : ∀ u ∈ strv l, u.oneCell' = true := by
  intro u hu
  simp only [strv, List.mem_map] at hu
  obtain ⟨x, _, rfl⟩ := hu
  rfl
theorem wrap_in (x : Int) (h0 : 0 ≤ x) (h1 : x ≤ 9223372036854775806) : wrap64 (x + 1) = x + 1 := by unfold wrap64; omega
theorem fits_loop (l : List ByteArray) (hl : l.length ≤ 9223372036854775806) : ∀ m i : Nat, i ≤ l.length → l.length - i = m → ∃ k r, laws_zzFits2.l0 k l (l.length : Int) (i : Int) = some r
  | 0, i, hi, hm => ⟨1, true, by rw [laws_zzFits2.l0, if_neg (by omega)]⟩
  | m + 1, i, hi, hm => by
    obtain ⟨k, r, h⟩ := fits_loop l hl m (i + 1) (by omega) (by omega)
    by_cases hs : ((rdOf ByteArray.empty l (i : Int)).size : Int) > 2147483647
    · exact ⟨1, false, by rw [laws_zzFits2.l0, if_pos (by omega), if_pos (by omega), if_pos (by omega), if_pos hs]⟩
    · refine ⟨k + 1, r, ?_⟩
      rw [laws_zzFits2.l0, if_pos (by omega), if_pos (by omega), if_pos (by omega), if_neg hs, wrap_in _ (by omega) (by omega)]
      exact h
theorem fits_f (l : List ByteArray) : ∃ k r, laws_zzFits2.f k l = some r := by
  by_cases h : (l.length : Int) > 2147483647
  · exact ⟨0, false, by rw [laws_zzFits2.f, if_pos h]⟩
  · obtain ⟨k, r, e⟩ := fits_loop l (by omega) _ 0 (Nat.zero_le _) rfl
    exact ⟨k, r, by rw [laws_zzFits2.f, if_neg h]; exact e⟩
/-- The print's word for a slice of texts. -/
theorem kd_strs {w : World} {A : Option Addr} {c : Nat} {l : List ByteArray} (h : GS w A c (strv l)) : Kd.C Kd.string w A l.length l := by
  have hlen := strv_len l
  refine ⟨rfl, by have := h.len; omega, fun hp => ?_⟩
  obtain ⟨ad, hA, hc⟩ := gs_src h (by omega)
  refine ⟨ad, hA, fun j p hj => ⟨[.string p], rfl, rfl, fun i u hi => ?_⟩⟩
  match i, hi with
  | 0, hi =>
    obtain rfl : Value.string p = u := by simpa using hi
    have := hc j (.string p) (by simp [strv, hj])
    simpa [Kd.string, Kd.scalar] using this
  | i + 1, hi => simp at hi
theorem fits2 (A : Option Addr) (c : Nat) (l : List ByteArray) (w : World) (h : GS w A c (strv l)) : Calls Tryz.prog 20 #[.slice A l.length c] w fun e w' => ∃ b, e = .returned (.bool b) ∧ Below w.heap.size w w' := by
  obtain ⟨k, r, hf⟩ := fits_f l
  refine (laws_zzFits2.calls k A c l r w (kd_strs h) (by have := h.le; rw [strv_len] at this; exact this) hf).mono ?_
  rintro e w' ⟨rfl, hd⟩
  exact ⟨r, rfl, hd.below⟩
end Go.Proofs.YtbpopaegfhcdpaaGreatDoor.X


/- What a reading of an argument says: texts. -/
set_option linter.unusedVariables false
set_option linter.unusedSimpArgs false
set_option maxRecDepth 100000
namespace Go.Proofs.YtbpopaegfhcdpaaGreatDoor.X
open Go.RowKit Go.ChangeShapes Go.WideShapes
section
variable {H : Type} {enc : TypeId × Value → H} {w : World} {sp : Nat → Bool} {held : Bool}
theorem weights_all {P : Program} {e : TypeId} : ∀ {ds : List (DataW H)} {d : DataW H}, d ∈ ds → ∀ n ∈ d.weights P e, n ∈ DataW.weightsAll P e ds
  | d0 :: ds, d, hd, n, hn => by
    simp only [DataW.weightsAll, List.mem_append]
    rcases List.mem_cons.1 hd with rfl | hd
    · exact .inl hn
    · exact .inr (weights_all hd n hn)
theorem strs_rows (fuel : Nat) (a : Addr) : ∀ (elems : List (DataW H × List MemPlace)) (i0 : Nat) (hel : ∀ i, i < elems.length → (w.cells? 0 (a.add (i0 + i)) 1).bind (DataW.trod enc Tryz.prog w 0 sp held fuel 9) = elems[i]?)
      (hz : ∀ d ∈ elems, ∀ n ∈ d.1.weights Tryz.prog 9, n ≤ reachBytes),
      ∃ l : List ByteArray, l.length = elems.length ∧ (∀ s ∈ l, s.size ≤ 140737488351232) ∧ (elems ≠ [] → i0 = 0 → a.spot = none) ∧ ∀ j, (h : j < l.length) → w.cell? ⟨a.block, a.off + (i0 + j), none⟩ = some (.string l[j])
  | [], i0, _, _ => ⟨[], rfl, by simp, fun h => absurd rfl h, fun j h => by simp at h⟩
  | d :: r, i0, hel, hz => by
    obtain ⟨l, h1, h2, -, h4⟩ := strs_rows fuel a r (i0 + 1) (fun i hi => by
      have := hel (i + 1) (by simpa using hi)
      rw [show i0 + (i + 1) = i0 + 1 + i from by omega] at this
      simpa using this) (fun d hd => hz d (List.mem_cons_of_mem _ hd))
    have h0 := hel 0 (by simp)
    simp only [List.getElem?_cons_zero, Nat.add_zero, Option.bind_eq_some_iff] at h0
    obtain ⟨cs, hcs, hd⟩ := h0
    obtain ⟨-, hlc, hcc⟩ := World.cells?_some hcs
    match cs, hlc with
    | [c0], _ =>
      obtain ⟨s, hs, hd1, _⟩ := DataW.trod_string Tryz.underlying9 hd
      obtain rfl : c0 = .string s := by simpa using hs
      have hsz : s.size ≤ 140737488351232 := by
        have := hz d List.mem_cons_self s.data.toList.length (by rw [hd1]; simp [DataW.weights])
        simpa [reachBytes] using this
      have c0 := hcc 0 (by omega)
      refine ⟨s :: l, by simp [h1], fun x hx => ?_, fun _ h => ?_, fun j hj => ?_⟩
      · rcases List.mem_cons.1 hx with rfl | hx
        · exact hsz
        · exact h2 x hx
      · subst h
        have := spot_none c0
        simpa [Addr.add] using this
      · match j, hj with
        | 0, _ => simpa using cell_add2 c0
        | j + 1, hj =>
          have := h4 j (by simpa using hj)
          rw [show i0 + (j + 1) = i0 + 1 + j from by omega]
          simpa using this
theorem open_strs {fuel : Nat} {cs : List Value} {x : DataW H × List MemPlace} (h : DataW.trod enc Tryz.prog w 0 sp held fuel 49 cs = some x)
    (hz : ∀ n ∈ x.1.weights Tryz.prog 49, n ≤ reachBytes) : ∃ (A : Option Addr) (c : Nat) (l : List ByteArray), cs = [.slice A l.length c] ∧ GS w A c (strv l) ∧ l.length ≤ 8796093022000 ∧ (∀ s ∈ l, s.size ≤ 140737488351232) := by
  rcases DataW.trod_slice Tryz.underlying49 h with ⟨rfl, _⟩ | ⟨a, len, cap, elems, rest, m, hm, rfl, rfl, _, hlc, hcm, hel, hee, _, _⟩
  · exact ⟨none, 0, [], rfl, GS.nil w, by simp, by simp⟩
  · have e1 : Tryz.prog.bytesOf 9 = 16 := by kernel_rfl
    have ez : (elems.length + rest.length) * Tryz.prog.bytesOf 9 ≤ reachBytes := hz _ (by simp [DataW.weights, Tryz.underlying49])
    rw [e1] at ez
    simp only [reachBytes] at ez
    have zk : ∀ d ∈ elems, ∀ n ∈ d.1.weights Tryz.prog 9, n ≤ reachBytes := fun d hd n' hn' => hz n' (by
      simp only [DataW.weights, Tryz.underlying49]
      exact List.mem_cons_of_mem _ (List.mem_append_left _ (weights_all (List.mem_map_of_mem hd) n' hn')))
    simp only [show Tryz.prog.cellsOf 9 = 1 from by kernel_rfl] at hee
    obtain ⟨l, q1, q2, q3, q4⟩ := strs_rows m a elems 0 (fun i hi => by have := hee i (by omega); simpa using this) zk
    refine ⟨some a, cap, l, by rw [q1, hel], ⟨by rw [strv_len, q1, hel]; exact hlc, by simpa [maxLen] using hcm, fun hp => ?_⟩, by omega, q2⟩
    rw [strv_len] at hp
    have hsn := q3 (fun h => by rw [h] at q1; simp at q1; rw [q1] at hp; simp at hp) rfl
    refine ⟨a.block, a.off, ?_, fun j hj => ?_⟩
    · obtain ⟨b0, o0, s0⟩ := a
      simp at hsn
      subst hsn
      rfl
    · rw [strv_len] at hj
      have := q4 j hj
      simpa [strv] using this
end
end Go.Proofs.YtbpopaegfhcdpaaGreatDoor.X


