/- What a reading of an argument says: bytes, values, elements. -/
import Derived.Test.YtdgncemcfhocmaaGreatDoorDoc4
import Derived.ChangeSlices
import Derived.ChangeSame
import Derived.SizedLaws
set_option linter.unusedVariables false
set_option linter.unusedSimpArgs false
set_option maxRecDepth 100000
namespace Go.Proofs.YtdgncemcfhocmaaGreatDoor.X
open Go.RowKit Go.ChangeShapes Go.WideShapes

theorem spot_none {w : World} {a : Addr} {v : Value} (h : w.cell? a = some v) : a.spot = none := by
  unfold World.cell? at h
  split at h
  · split at h
    · cases h
    · rename_i h2; simpa using h2
  · cases h
theorem cell_add {w : World} {a : Addr} {n : Nat} {v : Value} (h : w.cell? (a.add n) = some v) : w.cell? ⟨a.block, a.off + n, none⟩ = some v := by
  have hs := spot_none h
  unfold Addr.add at h hs
  split at h
  · rename_i h0
    subst h0
    obtain ⟨b, o, s⟩ := a
    simp at hs
    subst hs
    simpa using h
  · exact h
theorem cell_add2 {w : World} {a : Addr} {n m : Nat} {v : Value} (h : w.cell? ((a.add n).add m) = some v) : w.cell? ⟨a.block, a.off + n + m, none⟩ = some v := by
  have h1 := cell_add h
  have e1 : (a.add n).block = a.block := by unfold Addr.add; split <;> rfl
  have e2 : (a.add n).off = a.off + n := by unfold Addr.add; split <;> simp_all
  rw [e1, e2] at h1
  exact h1

section
variable {H : Type} {enc : TypeId × Value → H} {w : World} {sp : Nat → Bool} {held : Bool}

theorem open_bytes {fuel : Nat} {cs : List Value} {x : DataW H × List MemPlace} (h : DataW.trod enc Tryz.prog w 0 sp held fuel 23 cs = some x)
    (hz : ∀ n ∈ x.1.weights Tryz.prog 23, n ≤ reachBytes) : ∃ A c l, cs = [.slice A l.length c] ∧ SB w A c l ∧ l.length ≤ 140737488351232 := by
  rcases open_ints Tryz.underlying23 Tryz.underlying5 (by kernel_rfl) h with ⟨rfl, _⟩ | ⟨a, len, cap, zs, rfl, _, hl, hm, hlen, rfl, hc, hw⟩
  · exact ⟨none, 0, [], rfl, SB.nil w, by simp⟩
  · have hle : len ≤ zs.length := by rw [hlen]; split <;> omega
    have e1 : Tryz.prog.bytesOf 5 = 1 := by kernel_rfl
    have hz1 : len + (zs.length - len) ≤ reachBytes := by
      have := hz ((len + (zs.length - len)) * 1) (by simp [DataW.weights, Tryz.underlying23, e1, lits, Nat.min_eq_left hle])
      simpa using this
    have el : ((zs.take len).map fun z => UInt8.ofNat z.toNat).length = len := by simp [Nat.min_eq_left hle]
    refine ⟨some a, cap, (zs.take len).map fun z => UInt8.ofNat z.toNat, by rw [el], ⟨by rw [el]; exact hl, by simpa [maxLen] using hm, fun hpos => ?_⟩, by rw [el]; simp only [reachBytes] at hz1; omega⟩
    rw [el] at hpos
    have h0 := hc 0 (by omega)
    have hs := spot_none h0
    have ha : a = ⟨a.block, a.off, none⟩ := by
      obtain ⟨b, o, s⟩ := a
      simp [Addr.add] at hs
      subst hs
      rfl
    refine ⟨a.block, a.off, by rw [← ha], fun j hj => ?_⟩
    rw [el] at hj
    rw [cell_add (hc j (by omega))]
    have hwz := hw (zs.getD j 0) (by rw [List.getD_eq_getElem?_getD, List.getElem?_eq_getElem (by omega : j < zs.length)]; simp)
    have hb : 0 ≤ zs.getD j 0 ∧ zs.getD j 0 ≤ 255 := by
      revert hwz
      generalize zs.getD j 0 = z
      intro hwz
      simp [Lit.wf, IntKind.bits, IntKind.signed, IntKind.min, IntKind.max] at hwz
      omega
    have eg : zs.getD j 0 = zs[j]'(by omega) := by simp [List.getD_eq_getElem?_getD, List.getElem?_eq_getElem (by omega : j < zs.length)]
    simp only [List.getElem_map, List.getElem_take, ← eg]
    rw [UInt8.toNat_ofNat']
    congr 2
    omega

/-- The weights of a part. -/
theorem part_weights {t : TypeId} {fs : Array Field} (ht : Tryz.prog.underlying t = some (.struct fs)) {xs : List (DataW H × List MemPlace)} (hz : ∀ n ∈ (DataW.agg (xs.map (·.1))).weights Tryz.prog t, n ≤ reachBytes) (i : Nat) (f : Field) (y : DataW H × List MemPlace)
    (hf : fs[i]? = some f) (hy : xs[i]? = some y) : ∀ n ∈ y.1.weights Tryz.prog f.type, n ≤ reachBytes := fun n hn =>
  hz n (by
    simp only [DataW.weights, ht]
    exact DataW.weights_mem_each (j := i) (by simp [hf]) (by simp [hy]) n hn)
theorem weights_mem_all {P : Program} {e : TypeId} : ∀ {ds : List (DataW H)} {d : DataW H}, d ∈ ds → ∀ n ∈ d.weights P e, n ∈ DataW.weightsAll P e ds
  | d0 :: ds, d, hd, n, hn => by
    simp only [DataW.weightsAll, List.mem_append]
    rcases List.mem_cons.1 hd with rfl | hd
    · exact .inl hn
    · exact .inr (weights_mem_all hd n hn)

theorem open_str {fuel : Nat} {c : Value} {x : DataW H × List MemPlace} (h : DataW.trod enc Tryz.prog w 0 sp held fuel 9 [c] = some x) (hz : ∀ n ∈ x.1.weights Tryz.prog 9, n ≤ reachBytes) :
    ∃ s : ByteArray, c = .string s ∧ s.size ≤ 140737488351232 := by
  obtain ⟨s, hs, rfl, _⟩ := DataW.trod_string Tryz.underlying9 h
  refine ⟨s, by simpa using hs, ?_⟩
  have := hz s.data.toList.length (by simp [DataW.weights])
  simpa [reachBytes] using this

theorem open_kids (m : Nat) (IH : ∀ (cs : List Value) (x : DataW H × List MemPlace), DataW.trod enc Tryz.prog w 0 sp held m 26 cs = some x → (∀ n ∈ x.1.weights Tryz.prog 26, n ≤ reachBytes) → ∃ v, RV w v cs ∧ okv v) (a : Addr) :
    ∀ (elems : List (DataW H × List MemPlace)) (i0 : Nat) (hel : ∀ i, i < elems.length → (w.cells? 0 (a.add ((i0 + i) * 9)) 9).bind (DataW.trod enc Tryz.prog w 0 sp held (m + 1) 73) = elems[i]?)
      (hz : ∀ d ∈ elems, ∀ n ∈ d.1.weights Tryz.prog 73, n ≤ reachBytes),
      ∃ ks : List (ByteArray × Val), ks.length = elems.length ∧ okK ks ∧ (elems ≠ [] → i0 = 0 → a.spot = none) ∧ RKs w a.block (a.off + i0 * 9) ks
  | [], i0, _, _ => ⟨[], rfl, by simp only [okK], fun h => absurd rfl h, by simp only [RKs]⟩
  | d :: r, i0, hel, hz => by
    obtain ⟨ks, hkl, hko, -, hkr⟩ := open_kids m IH a r (i0 + 1) (fun i hi => by
      have := hel (i + 1) (by simpa using hi)
      rw [show i0 + (i + 1) = i0 + 1 + i from by omega] at this
      simpa using this) (fun d hd => hz d (List.mem_cons_of_mem _ hd))
    have h0 := hel 0 (by simp)
    simp only [List.getElem?_cons_zero, Nat.add_zero, Option.bind_eq_some_iff] at h0
    obtain ⟨cs, hcs, hd⟩ := h0
    obtain ⟨-, hlc, hcc⟩ := World.cells?_some hcs
    obtain ⟨xs, n, hn, rfl, -, hxl, hf⟩ := DataW.trod_struct Tryz.underlying73 hd
    obtain rfl : n = m := by omega
    match xs, hxl, cs, hlc with
    | [y0, y1], _, [c0, c1, c2, c3, c4, c5, c6, c7, c8], _ =>
      have h0 := hf 0 _ rfl
      have h1 := hf 1 _ rfl
      simp only [List.getElem_toArray, List.getElem_cons_zero, List.getElem_cons_succ] at h0 h1
      simp only [show Tryz.prog.cellsOf 9 = 1 from by kernel_rfl, show Tryz.prog.cellsOf 26 = 8 from by kernel_rfl] at h0 h1
      simp only [List.drop_zero, List.drop_succ_cons, List.take_succ_cons, List.take_zero, List.getElem?_cons_zero, List.getElem?_cons_succ] at h0 h1
      have z0 := part_weights (xs := [y0, y1]) Tryz.underlying73 (hz _ List.mem_cons_self) 0 _ y0 rfl rfl
      have z1 := part_weights (xs := [y0, y1]) Tryz.underlying73 (hz _ List.mem_cons_self) 1 _ y1 rfl rfl
      obtain ⟨s, rfl, hs⟩ := open_str h0 z0
      obtain ⟨v, hv, hok⟩ := IH _ _ h1 z1
      have c0 := hcc 0 (by omega)
      refine ⟨(s, v) :: ks, by simp [hkl], by simp only [okK]; exact ⟨hs, hok, hko⟩, fun _ h => ?_, ?_⟩
      · subst h
        have := spot_none c0
        simpa [Addr.add] using this
      · simp only [RKs]
        refine ⟨⟨_, hv, ?_, fun j hj => ?_⟩, ?_⟩
        · have := cell_add2 c0
          simpa using this
        · have hj8 : j < 8 := by simpa using hj
          have e : [Value.string s, c1, c2, c3, c4, c5, c6, c7, c8][j + 1]? = some ([c1, c2, c3, c4, c5, c6, c7, c8][j]'hj) := by
            rw [List.getElem?_cons_succ, List.getElem?_eq_getElem]
          have := cell_add2 ((hcc (j + 1) (by omega)).trans e)
          rw [show a.off + i0 * 9 + 1 + j = a.off + i0 * 9 + (j + 1) from by omega]
          exact this
        · rw [show a.off + i0 * 9 + 9 = a.off + (i0 + 1) * 9 from by omega]
          exact hkr

theorem wf_int {k : IntKind} {n : Int} (h : (Lit.int k n).wf = true) : match k with | .i64 => (-9223372036854775808 ≤ n ∧ n ≤ 9223372036854775807) | .u64 => (0 ≤ n ∧ n ≤ 18446744073709551615) | _ => True := by
  cases k <;> first | trivial | (simp [Lit.wf, IntKind.bits, IntKind.signed, IntKind.min, IntKind.max] at h ⊢; omega)

theorem open_val_upto (N : Nat) : ∀ (fuel : Nat), fuel < N → ∀ (cs : List Value) (x : DataW H × List MemPlace), DataW.trod enc Tryz.prog w 0 sp held fuel 26 cs = some x → (∀ n ∈ x.1.weights Tryz.prog 26, n ≤ reachBytes) → ∃ v, RV w v cs ∧ okv v := by
  induction N with
  | zero => intro fuel h; omega
  | succ N ih =>
    intro fuel hfu cs x h hz
    obtain ⟨xs, n, hn, rfl, hl, hxl, hf⟩ := DataW.trod_struct Tryz.underlying26 h
    have hl8 : cs.length = 8 := by rw [hl]; kernel_rfl
    match xs, hxl, cs, hl8 with
    | [y0, y1, y2, y3, y4, y5, y6, y7], _, [c0, c1, c2, c3, c4, c5, c6, c7], _ =>
      have h0 := hf 0 _ rfl
      have h1 := hf 1 _ rfl
      have h2 := hf 2 _ rfl
      have h3 := hf 3 _ rfl
      have h4 := hf 4 _ rfl
      have h5 := hf 5 _ rfl
      have h6 := hf 6 _ rfl
      have h7 := hf 7 _ rfl
      simp only [List.getElem_toArray, List.getElem_cons_zero, List.getElem_cons_succ] at h0 h1 h2 h3 h4 h5 h6 h7
      simp only [show Tryz.prog.cellsOf 9 = 1 from by kernel_rfl, show Tryz.prog.cellsOf 3 = 1 from by kernel_rfl, show Tryz.prog.cellsOf 2 = 1 from by kernel_rfl, show Tryz.prog.cellsOf 22 = 1 from by kernel_rfl, show Tryz.prog.cellsOf 23 = 1 from by kernel_rfl, show Tryz.prog.cellsOf 24 = 1 from by kernel_rfl] at h0 h1 h2 h3 h4 h5 h6 h7
      simp only [List.drop_zero, List.drop_succ_cons, List.take_succ_cons, List.take_zero, List.getElem?_cons_zero, List.getElem?_cons_succ] at h0 h1 h2 h3 h4 h5 h6 h7
      have z := fun i f y => part_weights (xs := [y0, y1, y2, y3, y4, y5, y6, y7]) Tryz.underlying26 hz i f y
      obtain ⟨k, e0, -, w0⟩ := DataW.trod_int Tryz.underlying3 h0
      obtain ⟨text, rfl, w1⟩ := open_str h1 (z 1 _ y1 rfl rfl)
      obtain ⟨more, rfl, w2⟩ := open_str h2 (z 2 _ y2 rfl rfl)
      obtain ⟨nn, e3, -, w3⟩ := DataW.trod_int Tryz.underlying2 h3
      obtain ⟨bits, e4, -, w4⟩ := DataW.trod_int Tryz.underlying22 h4
      obtain ⟨high, e5, -, w5⟩ := DataW.trod_int Tryz.underlying22 h5
      obtain ⟨A, c, b, e6, hs, w6⟩ := open_bytes h6 (z 6 _ y6 rfl rfl)
      simp only [List.cons.injEq, and_true] at e0 e3 e4 e5 e6
      subst e0 e3 e4 e5 e6
      have z7 := z 7 _ y7 rfl rfl
      rcases DataW.trod_slice Tryz.underlying24 h7 with ⟨e7, _⟩ | ⟨a, len, cap, elems, rest, m, hm, e7, rfl, _, hlc, hcm, hel, hee, _, _⟩
      · simp only [List.cons.injEq, and_true] at e7
        subst e7
        refine ⟨.mk k text more nn bits high b [], ?_, ?_⟩
        · simp only [RV]
          exact ⟨A, c, none, 0, rfl, hs, Nat.le_refl _, by omega, .inl (by trivial)⟩
        · simp only [okv, okK]
          exact ⟨w1, w2, w6, by simp, wf_int w0, wf_int w3, wf_int w4, wf_int w5, trivial⟩
      · simp only [List.cons.injEq, and_true] at e7
        subst e7
        simp only [show Tryz.prog.cellsOf 73 = 9 from by kernel_rfl] at hee
        have ez : (elems.length + rest.length) * Tryz.prog.bytesOf 73 ≤ reachBytes := z7 _ (by simp [DataW.weights, Tryz.underlying24])
        rw [show Tryz.prog.bytesOf 73 = 128 from by kernel_rfl] at ez
        have zk : ∀ d ∈ elems, ∀ n ∈ d.1.weights Tryz.prog 73, n ≤ reachBytes := fun d hd n' hn' => z7 n' (by
          simp only [DataW.weights, Tryz.underlying24]
          exact List.mem_cons_of_mem _ (List.mem_append_left _ (weights_mem_all (List.mem_map_of_mem hd) n' hn')))
        have hkids : ∃ ks : List (ByteArray × Val), ks.length = elems.length ∧ okK ks ∧ (elems ≠ [] → a.spot = none) ∧ RKs w a.block a.off ks := by
          match m, elems, hel with
          | 0, [], _ => exact ⟨[], rfl, by simp only [okK], fun h => absurd rfl h, by simp only [RKs]⟩
          | 0, d :: r, hel => 
            exfalso
            have := hee 0 (by rw [← hel]; simp)
            simp only [List.getElem?_cons_zero, Option.bind_eq_some_iff] at this
            obtain ⟨_, _, hd⟩ := this
            simp [DataW.trod] at hd
          | m + 1, elems, hel =>
            obtain ⟨ks, q1, q2, q3, q4⟩ := open_kids m (fun cs x hx hzx => ih m (by omega) cs x hx hzx) a elems 0 (fun i hi => by rw [Nat.zero_add]; exact hee i (by omega)) zk
            exact ⟨ks, q1, q2, fun h => q3 h rfl, by simpa using q4⟩
        obtain ⟨ks, q1, q2, q3, q4⟩ := hkids
        refine ⟨.mk k text more nn bits high b ks, ?_, ?_⟩
        · simp only [RV]
          refine ⟨A, c, some a, cap, by rw [q1, hel], hs, by omega, by simpa [maxLen] using hcm, ?_⟩
          by_cases hk : ks = []
          · exact .inl hk
          · have hsn := q3 (fun h => hk (List.eq_nil_of_length_eq_zero (by rw [q1, h]; rfl)))
            refine .inr ⟨a.block, a.off, ?_, q4⟩
            obtain ⟨b0, o0, s0⟩ := a
            simp at hsn
            subst hsn
            rfl
        · simp only [okv]
          simp only [reachBytes] at ez
          exact ⟨w1, w2, w6, by omega, wf_int w0, wf_int w3, wf_int w4, wf_int w5, q2⟩
theorem open_val {cs : Array Value} {d : DataW H} {ps : List MemPlace} (h : DataW.Trod enc Tryz.prog w 0 sp held 26 (.agg cs) d ps) (hz : ∀ n ∈ d.weights Tryz.prog 26, n ≤ reachBytes) : ∃ v, RV w v cs.toList ∧ okv v := by
  obtain ⟨fuel, hf⟩ := h
  exact open_val_upto (fuel + 1) fuel (by omega) _ _ hf hz
end
end Go.Proofs.YtdgncemcfhocmaaGreatDoor.X
