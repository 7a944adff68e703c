/- Contracts of vectors of 8 bits as bytes. -/
import Derived.Test.YtjjfdamlicoeeaaDoorVecA
import Derived.Test.YtjjfdamlicoeeaaDoorWLast
import Derived.Test.YtjjfdamlicoeeaaDoorWTab
set_option linter.unusedVariables false
set_option linter.unusedSimpArgs false
set_option maxRecDepth 100000
namespace Go.Proofs.YtjjfdamlicoeeaaDoor.X
open Go.RowKit Go.Deep Go.Proofs.YtjjfdamlicoeeaaDoorW.PrintLast
def R22.T2 : Bool × List (List Nat × List Nat) := (true, [([], []), ([0], [0]), ([1], [1]), ([], []), ([3], [3]), ([4], [4]), ([2, 5, 0, 1, 2], [2]), ([5, 6, 0, 1, 2, 3, 4, 5, 6], [5])])
def R22.B2 : List Nat := [0, 1, 3, 0, 8, 24, 63, 127]
theorem R22.tab2 : rtab .any (opsOf Tryd.f22 2) = R22.T2 := by kernel_rfl
theorem R22.bits2 : waitsOk R22.T2.2 R22.B2 = true := by kernel_rfl
theorem infoU8 : (Tryd.prog.info? 5).map (fun i => (i.zero, i.size, i.bytes)) = some (some (.int .u8 0), 1, 1) := by kernel_rfl
def i8v (l : List Int) : List Value := l.map (.int .i8 ·)
theorem i8v_len (l : List Int) : (i8v l).length = l.length := by simp [i8v]
theorem i8v_one (l : List Int) : ∀ u ∈ i8v l, u.oneCell' = true := by
  intro u hu
  simp only [i8v, List.mem_map] at hu
  obtain ⟨x, _, rfl⟩ := hu
  rfl
def i8b (l : List Int) : List UInt8 := l.map ub
theorem i8b_len (l : List Int) : (i8b l).length = l.length := by simp [i8b]
/-- The bytes written so far. -/
def rowF (l : List Int) (k : Nat) (j : Nat) : Value := .int .u8 (if j = 0 then 3 else if j = 1 then 0 else if j < k + 2 then (l.getD (j - 2) 0) % 256 else 0)
theorem rowF_get (l : List Int) (k : Nat) (hk : k = l.length) (j : Nat) (hj : j < (3 :: 0 :: i8b l).length) : some (rowF l k j) = some (.int .u8 (((3 :: 0 :: i8b l)[j]).toNat : Int)) := by
  match j, hj with
  | 0, _ => rfl
  | 1, _ => rfl
  | j + 2, hj =>
    have hj2 : j < l.length := by simpa [i8b_len] using hj
    simp only [rowF, List.getElem_cons_succ, i8b, List.getElem_map, ub_toNat]
    rw [if_neg (by omega), if_neg (by omega), if_pos (by omega), List.getD_eq_getElem?_getD, show j + 2 - 2 = j from rfl, List.getElem?_eq_getElem hj2]
    rfl
def BinRel (w : World) (G n : Nat) (l : List Int) (i : Value) (wr : World) : Prop := ∃ k : Nat, k ≤ n ∧ i = .int .i64 k ∧ wr.rowIs G 5 (n + 2) (rowF l k) ∧ Below G w wr
theorem binI8 (A : Option Addr) (c : Nat) (l : List Int) (w : World) (hs : GS w A c (i8v l)) (h8 : ∀ x ∈ l, -128 ≤ x ∧ x ≤ 127) (hl : l.length ≤ 140737488351232) :
    Calls Tryd.prog 70 #[.slice A l.length c] w fun e w' => ∃ A1, e = .returned (.agg #[.int .u8 9, .slice A1 (l.length + 2) (l.length + 2)]) ∧ SB w' A1 (l.length + 2) (3 :: 0 :: i8b l) ∧ (∀ a, A1 = some a → w.heap.size ≤ a.block) ∧ Below w.heap.size w w' := by
  have hlv := i8v_len l
  obtain ⟨q, hq⟩ : ∃ q, q = l.length := ⟨_, rfl⟩
  rw [← hq] at hlv hl ⊢
  have hmk := run_make_row' (P := Tryd.prog) 38 5 (.int .u8 0) 1 Tryd.underlying38 infoU8 rfl .i64 .i64 (q + 2) (by omega) (by omega)
  simp only [Int.natCast_add, Int.cast_ofNat_Int] at hmk
  have HQ := Lib.hid hq
  have m0 : (madeCells #[.int .u8 0] (q + 2))[0]? = some (.int .u8 0) := by simp [madeCells]
  have m1 : (madeCells #[.int .u8 0] (q + 2))[1]? = some (.int .u8 0) := by simp [madeCells]
  clear hq
  have HV := Lib.hid hlv
  clear hlv
  go_enter Tryd.func70, Tryd.ntmps70
  go_wp2_with fail
  go_loopw [16] (fun i wr => BinRel (w.alloc (.cells #[.int .u8 0, .slice none 0 0] 78)) (w.heap.size + 1) q l i wr) (fun i _ => q - (intOf i).toNat)
  case atStart =>
    refine ⟨0, Nat.zero_le _, rfl, ⟨_, by simpa using heap_alloc_new (w.alloc _) _, by simp [madeCells], fun i hi => ?_⟩, balloc (Below.refl _ _) (by simp) _⟩
    have hm : (madeCells #[.int .u8 0] (q + 2))[i]? = some (.int .u8 0) := by simp [madeCells, hi, Nat.mod_one]
    match i, hi with
    | 0, _ => simp [rowF, madeCells]
    | 1, _ => simp [rowF, madeCells]
    | i + 2, hi =>
      rw [Array.getElem?_setIfInBounds_ne (by omega), Array.getElem?_setIfInBounds_ne (by omega), hm]
      simp [rowF]
      exact fun h => absurd h (by omega)
  case round =>
    obtain ⟨k, hk, rfl, hrow, hb⟩ := hrel
    by_cases hkq : k < q
    · have hq := HQ.out
      have hkl : k < l.length := by omega
      obtain ⟨b, off, rfl, hc⟩ := hs.cells (by rw [HV.out]; omega)
      have hcw := hc k (by rw [HV.out]; exact hkq)
      have hblt := World.block_lt_of_cell? w _ hcw
      have hc1 : wr.cell? ⟨b, off + k, none⟩ = some (.int .i8 l[k]) := by
        rw [hb.cell (p := ⟨b, off + k, none⟩) (by show b < w.heap.size + 1; have : b < w.heap.size := hblt; omega), World.cell?_alloc_past _ _ _ hblt, hcw]
        simp [i8v]
      have hx := h8 _ (List.getElem_mem hkl)
      obtain ⟨x, hxx⟩ : ∃ x, x = l[k] := ⟨_, rfl⟩
      rw [← hxx] at hc1 hx
      have hr0 := hrow.cell (i := k + 2) (by omega)
      have hr1 := hrow.frozen (k + 2)
      have HX := Lib.hid hxx
      have HR := Lib.hid hrow
      clear hq hxx hrow hc hcw
      go_wp2_with fail
      go_roundw
      case rel =>
        have hq := HQ.out
        have hxx := HX.out
        refine ⟨k + 1, by omega, by simp, (HR.out.set (k + 2) _).congr (fun i hi => ?_), hb.setCell (Nat.le_refl _) _⟩
        simp only [rowF]
        by_cases h1 : i = k + 2
        · subst h1
          rw [if_pos rfl, if_neg (by omega), if_neg (by omega), if_pos (by omega), List.getD_eq_getElem?_getD, show k + 2 - 2 = k from rfl, List.getElem?_eq_getElem (by omega), hxx]
          rfl
        · rw [if_neg h1]
          congr 1
          by_cases h2 : i = 0
          · rw [if_pos h2, if_pos h2]
          · rw [if_neg h2, if_neg h2]
            by_cases h4 : i = 1
            · rw [if_pos h4, if_pos h4]
            rw [if_neg h4, if_neg h4]
            by_cases h3 : i < k + 2
            · rw [if_pos h3, if_pos (by omega)]
            · rw [if_neg h3, if_neg (by omega)]
      case measure => simp [intOf]; omega
    · obtain rfl : k = q := by omega
      have b0 := boxc (cs := [.int .u8 0, .slice none 0 0]) hb 0
      have b1 := boxc (cs := [.int .u8 0, .slice none 0 0]) hb 1
      have f0 := boxf (cs := [.int .u8 0, .slice none 0 0]) hb 0
      have f1 := boxf (cs := [.int .u8 0, .slice none 0 0]) hb 1
      simp at b0 b1
      have hz := boxs hb
      have hlt : w.heap.size < wr.heap.size := by omega
      have hend := boxb hb
      have HR := Lib.hid hrow
      clear hrow
      go_wp2_with fail
      have hn1 : (some (⟨w.heap.size + 1, 0, none⟩ : Addr)) = some ⟨w.heap.size + 1, 0, none⟩ := rfl
      exact bodyPost_ret (v := .agg #[.int .u8 9, .slice (some ⟨w.heap.size + 1, 0, none⟩) (k + 2) (k + 2)]) (by simp [results, Tryd.results70, go_sem, b0, b1, hlt]) rfl ⟨_, rfl, ⟨by have := HQ.out; simp [i8b_len]; omega, by omega, fun _ => ⟨w.heap.size + 1, 0, rfl, fun j hj => by
        have hq := HQ.out
        have hj2 : j < k + 2 := by simp [i8b_len] at hj; omega
        have hne : w.heap.size ≠ w.heap.size + 1 := by omega
        have := ((HR.out.setOther (a := ⟨w.heap.size, 0, none⟩) (by show w.heap.size + 1 ≠ w.heap.size; omega) (.int .u8 9)).setOther (a := ⟨w.heap.size, 1, none⟩) (by show w.heap.size + 1 ≠ w.heap.size; omega) (.slice (some ⟨w.heap.size + 1, 0, none⟩) (k + 2) (k + 2))).cell hj2
        rw [Nat.zero_add, this, rowF_get l k hq j hj]⟩⟩, fun a ha => by injection ha with ha; subst ha; show w.heap.size ≤ w.heap.size + 1; omega, (hend.setCell (Nat.le_refl _) _).setCell (Nat.le_refl _) _⟩
theorem vecBin (A : Option Addr) (c : Nat) (l : List Int) (w : World) (hs : GS w A c (i8v l)) (h8 : ∀ x ∈ l, -128 ≤ x ∧ x ≤ 127) (hl : l.length ≤ 140737488351232) :
    Calls Tryd.prog 47 #[vecI8 A l.length c] w fun e w' => ∃ A1, e = .returned (.agg #[.int .u8 9, .slice A1 (l.length + 2) (l.length + 2)]) ∧ SB w' A1 (l.length + 2) (3 :: 0 :: i8b l) ∧ (∀ a, A1 = some a → w.heap.size ≤ a.block) ∧ Below w.heap.size w w' := by
  have HT := Lib.hid (fun wx => vecType A l.length c wx)
  have HI := Lib.hid (fun wx => vecInt8 A l.length c wx)
  have HB := Lib.hid (fun wx (h : GS wx A c (i8v l)) => binI8 A c l wx h h8 hl)
  obtain ⟨q, hq⟩ : ∃ q, q = l.length := ⟨_, rfl⟩
  rw [← hq] at HT HI HB ⊢
  clear hq hl
  unfold vecI8 at HT HI ⊢
  go_enter Tryd.func47, Tryd.ntmps47
  go_wp2_with fail
  refine (HT.out _).mono ?_
  rintro e w1 ⟨rfl, hb1⟩
  have hs1 := ((hs.alloc (.cells #[.int .u8 3, .slice A q c, .slice none 0 0, .slice none 0 0, .int .u8 0] 74)).alloc (.cells #[.int .u8 0, .slice none 0 0] 78)).keep hb1
  obtain ⟨hc1, hf1⟩ := bcell hb1
  have hz1 := hb1.size
  simp only [World.size_alloc] at hz1 hc1 hf1
  have hend1 := bstep (balloc (balloc (Below.refl _ w) (Nat.le_refl _) _) (by simp) _) (by first | (simp; done) | (simp; omega)) hb1
  have hl1 : w.heap.size + 1 < w1.heap.size := by omega
  have c0 := hc1 (w.heap.size + 1) 0 (by omega)
  have c1 := hc1 (w.heap.size + 1) 1 (by omega)
  simp [go_sem] at c0 c1
  clear hb1
  go_wp2_with fail
  refine (HI.out _).mono ?_
  rintro e w2 ⟨rfl, hb2⟩
  have hs2 := hs1.keep hb2
  obtain ⟨hc2, hf2⟩ := bcell hb2
  have hz2 := hb2.size
  have hl2 : w.heap.size + 1 < w2.heap.size := by omega
  have hend2 := bstep hend1 (by omega) hb2
  clear hb2
  go_wp2_with fail
  refine (HB.out _ hs2).mono ?_
  rintro e w3 ⟨A1, rfl, hsb, hnew, hb3⟩
  obtain ⟨hc3, hf3⟩ := bcell hb3
  have hz3 := hb3.size
  have hl3 : w.heap.size + 1 < w3.heap.size := by omega
  have hend3 := bstep hend2 (by omega) hb3
  clear hb3 hs hs1 hs2
  have HSB := Lib.hid hsb
  have HN := Lib.hid hnew
  have hne : ∀ a, A1 = some a → a.block ≠ w.heap.size + 1 := fun a ha => by have := hnew a ha; omega
  clear hsb hnew
  have d0 := (hc3 _ 0 hl2).trans ((hc2 _ 0 hl1).trans c0)
  have d1 := (hc3 _ 1 hl2).trans ((hc2 _ 1 hl1).trans c1)
  clear HT HI HB
  go_wp2_with fail
  exact bodyPost_ret (v := .agg #[.int .u8 9, .slice A1 (q + 2) (q + 2)]) (by simp [results, Tryd.results47, go_sem, d0, d1, hl3]) rfl ⟨A1, rfl, (HSB.out.far hne _).far hne _, fun a ha => by have := HN.out a ha; omega, (hend3.setCell (by simp) _).setCell (by simp) _⟩
/-- impl.VectorInt8. -/
theorem vectorInt8 (A : Option Addr) (c : Nat) (l : List Int) (w : World) (hs : GS w A c (i8v l)) (h8 : ∀ x ∈ l, -128 ≤ x ∧ x ≤ 127) (hl : l.length ≤ 140737488300000) :
    Calls Tryd.prog 22 #[.slice A l.length c] w fun e w' => ∃ A1 c1, e = .returned (.tuple #[.int .i64 9, .slice A1 (l.length + 2) c1]) ∧ SB w' A1 c1 (3 :: 0 :: i8b l) ∧ Below w.heap.size w w' := by
  have HV := Lib.hid (fun wx (h : GS wx A c (i8v l)) => newVecI8 A c (i8v l) wx h (i8v_one l) (by rw [i8v_len]; omega))
  have HB := Lib.hid (fun A' c' wx (h : GS wx A' c' (i8v l)) => vecBin A' c' l wx h h8 (by omega))
  have HO := Lib.hid (fun A' c' wx (h : SB wx A' c' (3 :: 0 :: i8b l)) => fresh_of (implOwn A' c' _ wx h (by simp [i8b_len]; omega)))
  have e2 : (3 :: 0 :: i8b l).length = l.length + 2 := by simp [i8b_len]
  rw [e2] at HO
  rw [i8v_len] at HV
  obtain ⟨q, hq⟩ : ∃ q, q = l.length := ⟨_, rfl⟩
  rw [← hq] at HV HB HO ⊢
  have hq1 : q ≤ 140737488300000 := by omega
  clear hq hl e2
  go_enter Tryd.func22, Tryd.ntmps22
  go_wp2_with fail
  refine (HV.out _ hs).mono ?_
  rintro e w1 ⟨A1, rfl, hs1, -, hb1⟩
  have hz1 := hb1.size
  go_wp2_with fail
  refine (HB.out _ _ _ hs1).mono ?_
  rintro e w2 ⟨A2, rfl, hs2, hnew, hb2⟩
  have hz2 := hb2.size
  have hend2 := bthen hb1 hb2
  have HS2 := Lib.hid (hs2.alloc (.cells #[.int .u8 9, .slice A2 (q + 2) (q + 2)] 78))
  have hendA := balloc hend2 (by omega) (.cells #[.int .u8 9, .slice A2 (q + 2) (q + 2)] 78)
  clear hs1 hs2 hs hnew hb1 hb2 HV HB
  go_wp2_with fail
  refine start_ (n := 8) (S := fun w' => w'.cell? ⟨w2.heap.size, 0, none⟩ = some (.int .u8 9) ∧ w'.cell? ⟨w2.heap.size, 1, none⟩ = some (.slice A2 (q + 2) (q + 2))) (ds := []) #[false, false, false, false, false, false, false, false] (by kernel_rfl) rfl rfl ⟨(by go_simp), (by go_simp)⟩ (fun hHeld => ?_)
  refine with_tabW R22.tab2 R22.bits2 (fun HT_ HW_ => ?_)
  refine pure_ (i := 0) (N := some 8) (v := ?_) (a' := ?_) #[true, false, false, false, false, false, false, false] rfl rfl (any_of HT_.out (by kernel_rfl)) (fun _ _ _ h => h) (Or.inl ⟨by rfl, ?_⟩) ?_ ?_
  rotate_left
  · intro w'
    go_simp
    with_reducible rfl
  rotate_left
  · simp only [Act.put, List.setIfInBounds_toArray, List.set_cons_zero, List.set_cons_succ, i64_w, i32_w]
    rfl
  refine pure_ (i := 3) (N := some 11) (v := ?_) (a' := ?_) #[true, false, false, true, false, false, false, false] rfl rfl (any_of HT_.out (by kernel_rfl)) (fun _ _ _ h => h) (Or.inl ⟨by rfl, ?_⟩) ?_ ?_
  rotate_left
  · intro w'
    go_simp
    with_reducible rfl
  rotate_left
  · simp only [Act.put, List.setIfInBounds_toArray, List.set_cons_zero, List.set_cons_succ, i64_w, i32_w]
    rfl
  refine take_ (i := 1) (N := some 9) (v := ?_) (a' := ?_) #[true, true, false, true, false, false, false, false] rfl rfl (take_ofW HT_.out HW_.out (by kernel_rfl)) (fun _ _ _ h => h) (Or.inl ⟨by rfl, ?_⟩) hHeld ?_ ?_
  rotate_left
  · rintro w' ⟨s0, s1⟩
    go_simp
    with_reducible rfl
  rotate_left
  · simp only [Act.put, List.setIfInBounds_toArray, List.set_cons_zero, List.set_cons_succ, i64_w, i32_w]
    rfl
  refine pure_ (i := 2) (N := some 10) (v := ?_) (a' := ?_) #[true, true, true, true, false, false, false, false] rfl rfl (any_of HT_.out (by kernel_rfl)) (fun _ _ _ h => h) (Or.inl ⟨by rfl, ?_⟩) ?_ ?_
  rotate_left
  · intro w'
    go_simp
    with_reducible rfl
  rotate_left
  · simp only [Act.put, List.setIfInBounds_toArray, List.set_cons_zero, List.set_cons_succ, i64_w, i32_w]
    rfl
  refine take_ (i := 4) (N := some 12) (v := ?_) (a' := ?_) #[true, true, true, true, true, false, false, false] rfl rfl (take_ofW HT_.out HW_.out (by kernel_rfl)) (fun _ _ _ h => h) (Or.inl ⟨by rfl, ?_⟩) hHeld ?_ ?_
  rotate_left
  · rintro w' ⟨s0, s1⟩
    go_simp
    with_reducible rfl
  rotate_left
  · simp only [Act.put, List.setIfInBounds_toArray, List.set_cons_zero, List.set_cons_succ, i64_w, i32_w]
    rfl
  refine one_ (i := 5) (N := some 13) #[true, true, true, true, true, true, false, false] rfl rfl (one_of HT_.out (by kernel_rfl)) (by decide) (fun K hK => ?_)
  refine goes_ Tryd.func45 (by kernel_rfl) rfl #[.slice A2 (q + 2) (q + 2)] (by rfl) rfl rfl (by simp only [List.map_toArray, List.map_cons, List.map_nil]; rfl) ?_
  with_reducible refine (HO.out _ _ _ (HS2.out.keep (bdrew (Below.refl _ _)))).mono ?_
  rintro e w3 ⟨A3, c3, rfl, hs3, ho3, hb3⟩
  refine ⟨_, rfl, ?_⟩
  have HS3 := Lib.hid hs3
  have HB3 := Lib.hid (bthen hendA (bleft hb3))
  refine hK.out _ _ ⟨((hb3.cell (World.block_lt_of_cell? _ _ hHeld.1)).trans hHeld.1), ((hb3.cell (World.block_lt_of_cell? _ _ hHeld.2)).trans hHeld.2)⟩ (fun hHeld => ?_)
  clear hK K
  refine norm_ (a' := ?_) ?_ ?_
  rotate_left
  · show Act.put _ (some 13) _ = _
    simp only [Act.put, List.setIfInBounds_toArray, List.set_cons_zero, List.set_cons_succ, i64_w, i32_w]
    rfl
  refine pure_ (i := 6) (N := some 2) (v := ?_) (a' := ?_) #[true, true, true, true, true, true, true, false] rfl rfl (any_of HT_.out (by kernel_rfl)) (fun _ _ _ h => h) (Or.inl ⟨by rfl, ?_⟩) ?_ ?_
  rotate_left
  · intro w'
    go_simp
    with_reducible rfl
  rotate_left
  · simp only [Act.put, List.setIfInBounds_toArray, List.set_cons_zero, List.set_cons_succ, i64_w, i32_w]
    rfl
  refine pure_ (i := 7) (N := some 3) (v := ?_) (a' := ?_) #[true, true, true, true, true, true, true, true] rfl rfl (any_of HT_.out (by kernel_rfl)) (fun _ _ _ h => h) (Or.inl ⟨by rfl, ?_⟩) ?_ ?_
  rotate_left
  · intro w'
    go_simp
    with_reducible rfl
  rotate_left
  · simp only [Act.put, List.setIfInBounds_toArray, List.set_cons_zero, List.set_cons_succ, i64_w, i32_w]
    rfl
  refine done_ (done_of HT_.out (by kernel_rfl)) ?_
  go_wp2_with fail
  go_ret2
  exact ⟨A3, c3, by rw [show wrap64 9 = 9 from by unfold wrap64; omega]; rfl, HS3.out, HB3.out⟩
end Go.Proofs.YtjjfdamlicoeeaaDoor.X
