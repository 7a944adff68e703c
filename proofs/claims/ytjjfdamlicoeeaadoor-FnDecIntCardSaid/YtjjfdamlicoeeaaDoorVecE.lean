/- Contracts of the laws' helpers on vectors of 8 bits. -/
import Derived.Test.YtjjfdamlicoeeaaDoorVecD
set_option linter.unusedVariables false
set_option linter.unusedSimpArgs false
set_option maxRecDepth 100000
namespace Go.Proofs.YtjjfdamlicoeeaaDoor.X
open Go.RowKit Go.Deep Go.Proofs.YtjjfdamlicoeeaaDoorW.PrintLast
def R21.T1 : Bool × List (List Nat × List Nat) := (true, [([], []), ([0], [0]), ([], []), ([2], [2]), ([1, 3], [1, 3]), ([4], [4]), ([5], [5]), ([6, 5], [5, 6]), ([5], [5]), ([8, 5], [5, 8]), ([7, 9, 5], [5, 7, 9]), ([5, 10], [5, 10]), ([11, 5], [11]), ([12], [12]), ([13, 12, 12], [12, 13]), ([12], [12]), ([15, 14, 12], [12, 15]), ([14, 16, 16, 12], [12, 14, 16]), ([12, 17], [12, 17]), ([18, 17, 0, 1, 2, 3, 4, 5, 6, 7, 8, 9, 10, 11, 12, 13, 14, 15, 16, 17, 18], [18])])
def R21.B1 : List Nat := [0, 1, 0, 4, 15, 31, 63, 127, 63, 319, 1023, 2047, 4095, 8191, 16383, 8191, 65535, 131071, 262143, 524287]
theorem R21.tab1 : rtab .any (opsOf Tryd.f21 1) = R21.T1 := by kernel_rfl
theorem R21.bits1 : waitsOk R21.T1.2 R21.B1 = true := by kernel_rfl
def BRel (w : World) (B : Nat) (l : List Int) (s i : Value) (wr : World) : Prop := ∃ k : Nat, k ≤ l.length ∧ i = .int .i64 (k : Int) ∧ OB 5 wr B s (3 :: 0 :: i8b (l.take k)) ∧ Below B w wr
theorem i8b_push (l : List Int) (k : Nat) (h : k < l.length) : 3 :: 0 :: i8b (l.take (k + 1)) = (3 :: 0 :: i8b (l.take k)) ++ [ub l[k]] := by
  rw [List.take_succ_eq_append_getElem h]
  simp only [i8b, List.map_append, List.map_cons, List.map_nil, List.cons_append]
theorem b_start (w : World) (o : Obj) : OB 5 ((w.alloc o).alloc (.cells #[.int .u8 3, .int .u8 0] 5)) (w.heap.size + 1) (.slice (some ⟨w.heap.size + 1, 0, none⟩) 2 2) [3, 0] := by
  have h := OB.lit_ (E := 5) (w.alloc o) (w.heap.size + 1) (by simp) [3, 0] [.int .u8 3, .int .u8 0] rfl (by simp) 2 rfl
  rw [World.size_alloc] at h
  exact h
theorem vBytes3 (A : Option Addr) (c : Nat) (l : List Int) (w : World) (hs : GS w A c (i8v l)) (h8 : ∀ x ∈ l, -128 ≤ x ∧ x ≤ 127) (hl : l.length ≤ 1000000) :
    Calls Tryd.prog 24 #[ivec3 A l.length c] w fun e w' => ∃ A1 c1, e = .returned (.slice A1 (3 :: 0 :: i8b l).length c1) ∧ SB w' A1 c1 (3 :: 0 :: i8b l) ∧ Below w.heap.size w w' := by
  obtain ⟨n, hn⟩ : ∃ n, n = (3 :: 0 :: i8b l).length := ⟨_, rfl⟩
  rw [← hn]
  have HN := Lib.hid hn
  obtain ⟨q, hq⟩ : ∃ q, q = l.length := ⟨_, rfl⟩
  rw [← hq] at hl ⊢
  have HQ := Lib.hid hq
  have HS := Lib.hid hs
  clear hn hq hs
  unfold ivec3
  go_enter Tryd.func24, Tryd.ntmps24
  go_wp2_with fail
  go_loopw [3, 22] (fun s i wr => BRel (w.alloc (.cells #[.int .i64 3, .slice A q c, .slice none 0 0, .slice none 0 0, .int .i64 0] 42)) (w.heap.size + 1) l s i wr) (fun _ i _ => q - (intOf i).toNat)
  case atStart => exact ⟨0, Nat.zero_le _, rfl, b_start w _, balloc (Below.refl _ _) (by simp) _⟩
  case round =>
    obtain ⟨k, hk, rfl, hog, hb⟩ := hrel
    have hq := HQ.out
    by_cases hkq : k < q
    · have hkr : k < l.length := by omega
      obtain ⟨b, off, rfl, hc⟩ := HS.out.cells (by simp [i8v]; omega)
      have hcw := hc k (by simpa [i8v] using hkr)
      have hblt : b < w.heap.size := World.block_lt_of_cell? w _ hcw
      have hc1 : wr.cell? ⟨b, off + k, none⟩ = some (.int .i8 l[k]) := by
        rw [hb.cell (p := ⟨b, off + k, none⟩) (by show b < w.heap.size + 1; omega), World.cell?_alloc_past _ _ _ hblt, hcw]
        simp [i8v]
      have hx := h8 _ (List.getElem_mem hkr)
      obtain ⟨x, hxx⟩ : ∃ x, x = l[k] := ⟨_, rfl⟩
      rw [← hxx] at hc1 hx
      have HX := Lib.hid hxx
      obtain ⟨A6, c6, rfl, hg6, hn6⟩ := hog.sb
      have hl6 : (3 :: 0 :: i8b (l.take k)).length = k + 2 := by simp [i8b]; omega
      have HOG := Lib.hid hog
      rw [hl6] at HOG ⊢
      obtain ⟨L, hL⟩ : ∃ L, L = 3 :: 0 :: i8b (l.take k) := ⟨_, rfl⟩
      rw [← hL] at HOG hl6
      have HL := Lib.hid hL
      have HLL := Lib.hid hl6
      have hz := hb.size
      simp only [World.size_alloc] at hz
      clear hq hxx hcw hog hg6 hl6 hL hc
      go_wp2_with (first | (refine wp_app (.tmp 26) (.tmp 29) 38 rfl rfl infoU8 Tryd.underlying38 _ (w.heap.size + 1) (.slice A6 (k + 2) c6) L (some ⟨wr.heap.size, 0, none⟩) 1 [ub x] rfl rfl ?a1 ?a2 ?a3 ?a4 ?_) | fail)
      case a1 => exact HOG.out.alloc _
      case a2 => exact SB.lit_ _ [ub x] _ (by simp [byv, ub_toNat]) (by simp) _ rfl
      case a3 => simp; omega
      case a4 => rw [HLL.out]; simp; omega
      intro v5 w5 hap
      have HAP := Lib.hid hap
      clear hap
      go_wp2_with fail
      go_roundw
      case rel =>
        have hq := HQ.out
        refine ⟨k + 1, by omega, by simp, ?_, ?_⟩
        · rw [i8b_push l k hkr, ← HL.out, ← HX.out]
          exact HAP.out.own
        · exact (balloc hb (by omega) _).trans (HAP.out.kept (HOG.out.alloc _) (by simp; omega))
      case measure => simp [intOf]; omega
    · obtain rfl : k = q := by omega
      obtain ⟨A6, c6, rfl, hg6, hn6⟩ := hog.sb
      have et : l.take k = l := by rw [hq]; exact List.take_length
      rw [et] at hg6 ⊢
      have hend := boxb hb
      rw [← HN.out]
      have HG := Lib.hid hg6
      clear hb hog hg6 hn6 et hq
      go_wp2_with fail
      go_ret
      exact ⟨A6, c6, rfl, HG.out, hend⟩
theorem vecBytesEq (A1 A2 : Option Addr) (c1 c2 : Nat) (l : List UInt8) (w : World) (h1 : SB w A1 c1 l) (h2 : SB w A2 c2 l) :
    Calls Tryd.prog 23 #[.slice A1 l.length c1, .slice A2 l.length c2] w fun e w' => e = .returned (.bool true) ∧ Below w.heap.size w w' := by
  have r1 := str_of h1
  have r2 := str_of h2
  obtain ⟨q, hq⟩ : ∃ q, q = l.length := ⟨_, rfl⟩
  obtain ⟨s, hs⟩ : ∃ s, s = (⟨l.toArray⟩ : ByteArray) := ⟨_, rfl⟩
  rw [← hq, ← hs] at r1 r2
  rw [← hq]
  clear hq h1 h2 hs
  go_enter Tryd.func23, Tryd.ntmps23
  go_wp2
  go_ret
  exact ⟨rfl, Below.refl _ _⟩
theorem vecSame3 (A1 A2 : Option Addr) (c1 c2 : Nat) (l : List Int) (w : World) (h1 : GS w A1 c1 (i8v l)) (h2 : GS w A2 c2 (i8v l)) (h8 : ∀ x ∈ l, -128 ≤ x ∧ x ≤ 127) (hl : l.length ≤ 1000000) :
    Calls Tryd.prog 21 #[ivec3 A1 l.length c1, ivec3 A2 l.length c2] w fun e w' => e = .returned (.bool true) ∧ Below w.heap.size w w' := by
  have HV1 := Lib.hid (fun wx (h : Below w.heap.size w wx) => vBytes3 A1 c1 l wx (h1.keep h) h8 hl)
  have HV2 := Lib.hid (fun wx (h : Below w.heap.size w wx) => vBytes3 A2 c2 l wx (h2.keep h) h8 hl)
  have HB := Lib.hid (fun A1 A2 c1 c2 wx g1 g2 => vecBytesEq A1 A2 c1 c2 (3 :: 0 :: i8b l) wx g1 g2)
  obtain ⟨n, hn⟩ : ∃ n, n = (3 :: 0 :: i8b l).length := ⟨_, rfl⟩
  obtain ⟨q, hq⟩ : ∃ q, q = l.length := ⟨_, rfl⟩
  rw [← hq, ← hn] at HV1 HV2
  rw [← hn] at HB
  rw [← hq]
  unfold ivec3 at HV1 HV2 ⊢
  clear hn hq h1 h2 h8 hl
  go_enter Tryd.func21, Tryd.ntmps21
  go_wp2_with fail
  refine start_ (n := 20) (S := fun w' => w'.cell? ⟨w.heap.size, 0, none⟩ = some (.int .i64 3) ∧ w'.cell? ⟨w.heap.size, 1, none⟩ = some (.slice A1 q c1) ∧ w'.cell? ⟨w.heap.size, 2, none⟩ = some (.slice none 0 0) ∧ w'.cell? ⟨w.heap.size, 3, none⟩ = some (.slice none 0 0) ∧ w'.cell? ⟨w.heap.size, 4, none⟩ = some (.int .i64 0) ∧ w'.cell? ⟨w.heap.size + 1, 0, none⟩ = some (.int .i64 3) ∧ w'.cell? ⟨w.heap.size + 1, 1, none⟩ = some (.slice A2 q c2) ∧ w'.cell? ⟨w.heap.size + 1, 2, none⟩ = some (.slice none 0 0) ∧ w'.cell? ⟨w.heap.size + 1, 3, none⟩ = some (.slice none 0 0) ∧ w'.cell? ⟨w.heap.size + 1, 4, none⟩ = some (.int .i64 0)) (ds := []) #[false, false, false, false, false, false, false, false, false, false, false, false, false, false, false, false, false, false, false, false] (by kernel_rfl) rfl rfl ⟨(by go_simp), (by go_simp), (by go_simp), (by go_simp), (by go_simp), (by go_simp), (by go_simp), (by go_simp), (by go_simp), (by go_simp)⟩ (fun hHeld => ?_)
  refine with_tabW R21.tab1 R21.bits1 (fun HT_ HW_ => ?_)
  refine pure_ (i := 0) (N := some 5) (v := ?_) (a' := ?_) #[true, false, false, false, false, false, false, false, false, false, false, false, false, false, false, false, false, false, false, false] rfl rfl (any_of HT_.out (by kernel_rfl)) (fun _ _ _ h => h) (Or.inl ⟨by rfl, ?_⟩) ?_ ?_
  rotate_left
  · intro w'
    go_simp
    with_reducible rfl
  rotate_left
  · simp only [Act.put, List.setIfInBounds_toArray, List.set_cons_zero, List.set_cons_succ, i64_w, i32_w]
    rfl
  refine pure_ (i := 2) (N := some 7) (v := ?_) (a' := ?_) #[true, false, true, false, false, false, false, false, false, false, false, false, false, false, false, false, false, false, false, false] rfl rfl (any_of HT_.out (by kernel_rfl)) (fun _ _ _ h => h) (Or.inl ⟨by rfl, ?_⟩) ?_ ?_
  rotate_left
  · intro w'
    go_simp
    with_reducible rfl
  rotate_left
  · simp only [Act.put, List.setIfInBounds_toArray, List.set_cons_zero, List.set_cons_succ, i64_w, i32_w]
    rfl
  refine take_ (i := 1) (N := some 6) (v := ?_) (a' := ?_) #[true, true, true, false, false, false, false, false, false, false, false, false, false, false, false, false, false, false, false, false] rfl rfl (take_ofW HT_.out HW_.out (by kernel_rfl)) (fun _ _ _ h => h) (Or.inl ⟨by rfl, ?_⟩) hHeld ?_ ?_
  rotate_left
  · rintro w' ⟨s0, s1, s2, s3, s4, s5, s6, s7, s8, s9⟩
    go_simp
    with_reducible rfl
  rotate_left
  · simp only [Act.put, List.setIfInBounds_toArray, List.set_cons_zero, List.set_cons_succ, i64_w, i32_w]
    rfl
  refine take_ (i := 3) (N := some 8) (v := ?_) (a' := ?_) #[true, true, true, true, false, false, false, false, false, false, false, false, false, false, false, false, false, false, false, false] rfl rfl (take_ofW HT_.out HW_.out (by kernel_rfl)) (fun _ _ _ h => h) (Or.inl ⟨by rfl, ?_⟩) hHeld ?_ ?_
  rotate_left
  · rintro w' ⟨s0, s1, s2, s3, s4, s5, s6, s7, s8, s9⟩
    go_simp
    with_reducible rfl
  rotate_left
  · simp only [Act.put, List.setIfInBounds_toArray, List.set_cons_zero, List.set_cons_succ, i64_w, i32_w]
    rfl
  refine pure_ (i := 4) (N := some 9) (v := ?_) (a' := ?_) #[true, true, true, true, true, false, false, false, false, false, false, false, false, false, false, false, false, false, false, false] rfl rfl (any_of HT_.out (by kernel_rfl)) (fun _ _ _ h => h) (Or.inl ⟨by rfl, ?_⟩) ?_ ?_
  rotate_left
  · intro w'
    go_simp
    with_reducible rfl
  rotate_left
  · simp only [Act.put, List.setIfInBounds_toArray, List.set_cons_zero, List.set_cons_succ, i64_w, i32_w]
    rfl
  refine pure_ (i := 5) (N := some 10) (v := ?_) (a' := ?_) #[true, true, true, true, true, true, false, false, false, false, false, false, false, false, false, false, false, false, false, false] rfl rfl (any_of HT_.out (by kernel_rfl)) (fun _ _ _ h => h) (Or.inl ⟨by rfl, ?_⟩) ?_ ?_
  rotate_left
  · intro w'
    go_simp
    with_reducible rfl
  rotate_left
  · simp only [Act.put, List.setIfInBounds_toArray, List.set_cons_zero, List.set_cons_succ, i64_w, i32_w]
    rfl
  refine pure_ (i := 6) (N := some 11) (v := ?_) (a' := ?_) #[true, true, true, true, true, true, true, false, false, false, false, false, false, false, false, false, false, false, false, false] rfl rfl (any_of HT_.out (by kernel_rfl)) (fun _ _ _ h => h) (Or.inl ⟨by rfl, ?_⟩) ?_ ?_
  rotate_left
  · intro w'
    go_simp
    with_reducible rfl
  rotate_left
  · simp only [Act.put, List.setIfInBounds_toArray, List.set_cons_zero, List.set_cons_succ, i64_w, i32_w]
    rfl
  refine pure_ (i := 8) (N := some 13) (v := ?_) (a' := ?_) #[true, true, true, true, true, true, true, false, true, false, false, false, false, false, false, false, false, false, false, false] rfl rfl (any_of HT_.out (by kernel_rfl)) (fun _ _ _ h => h) (Or.inl ⟨by rfl, ?_⟩) ?_ ?_
  rotate_left
  · intro w'
    go_simp
    with_reducible rfl
  rotate_left
  · simp only [Act.put, List.setIfInBounds_toArray, List.set_cons_zero, List.set_cons_succ, i64_w, i32_w]
    rfl
  refine take_ (i := 7) (N := some 12) (v := ?_) (a' := ?_) #[true, true, true, true, true, true, true, true, true, false, false, false, false, false, false, false, false, false, false, false] rfl rfl (take_ofW HT_.out HW_.out (by kernel_rfl)) (fun _ _ _ h => h) (Or.inl ⟨by rfl, ?_⟩) hHeld ?_ ?_
  rotate_left
  · rintro w' ⟨s0, s1, s2, s3, s4, s5, s6, s7, s8, s9⟩
    go_simp
    with_reducible rfl
  rotate_left
  · simp only [Act.put, List.setIfInBounds_toArray, List.set_cons_zero, List.set_cons_succ, i64_w, i32_w]
    rfl
  refine take_ (i := 9) (N := some 14) (v := ?_) (a' := ?_) #[true, true, true, true, true, true, true, true, true, true, false, false, false, false, false, false, false, false, false, false] rfl rfl (take_ofW HT_.out HW_.out (by kernel_rfl)) (fun _ _ _ h => h) (Or.inl ⟨by rfl, ?_⟩) hHeld ?_ ?_
  rotate_left
  · rintro w' ⟨s0, s1, s2, s3, s4, s5, s6, s7, s8, s9⟩
    go_simp
    with_reducible rfl
  rotate_left
  · simp only [Act.put, List.setIfInBounds_toArray, List.set_cons_zero, List.set_cons_succ, i64_w, i32_w]
    rfl
  refine pure_ (i := 10) (N := some 15) (v := ?_) (a' := ?_) #[true, true, true, true, true, true, true, true, true, true, true, false, false, false, false, false, false, false, false, false] rfl rfl (any_of HT_.out (by kernel_rfl)) (fun _ _ _ h => h) (Or.inl ⟨by rfl, ?_⟩) ?_ ?_
  rotate_left
  · intro w'
    go_simp
    with_reducible rfl
  rotate_left
  · simp only [Act.put, List.setIfInBounds_toArray, List.set_cons_zero, List.set_cons_succ, i64_w, i32_w]
    rfl
  refine pure_ (i := 11) (N := some 16) (v := ?_) (a' := ?_) #[true, true, true, true, true, true, true, true, true, true, true, true, false, false, false, false, false, false, false, false] rfl rfl (any_of HT_.out (by kernel_rfl)) (fun _ _ _ h => h) (Or.inl ⟨by rfl, ?_⟩) ?_ ?_
  rotate_left
  · intro w'
    go_simp
    with_reducible rfl
  rotate_left
  · simp only [Act.put, List.setIfInBounds_toArray, List.set_cons_zero, List.set_cons_succ, i64_w, i32_w]
    rfl
  refine pure_ (i := 12) (N := some 17) (v := ?_) (a' := ?_) #[true, true, true, true, true, true, true, true, true, true, true, true, true, false, false, false, false, false, false, false] rfl rfl (any_of HT_.out (by kernel_rfl)) (fun _ _ _ h => h) (Or.inl ⟨by rfl, ?_⟩) ?_ ?_
  rotate_left
  · intro w'
    go_simp
    with_reducible rfl
  rotate_left
  · simp only [Act.put, List.setIfInBounds_toArray, List.set_cons_zero, List.set_cons_succ, i64_w, i32_w]
    rfl
  refine take_ (i := 13) (N := some 18) (v := ?_) (a' := ?_) #[true, true, true, true, true, true, true, true, true, true, true, true, true, true, false, false, false, false, false, false] rfl rfl (take_ofW HT_.out HW_.out (by kernel_rfl)) (fun _ _ _ h => h) (Or.inl ⟨by rfl, ?_⟩) hHeld ?_ ?_
  rotate_left
  · rintro w' ⟨s0, s1, s2, s3, s4, s5, s6, s7, s8, s9⟩
    go_simp
    with_reducible rfl
  rotate_left
  · simp only [Act.put, List.setIfInBounds_toArray, List.set_cons_zero, List.set_cons_succ, i64_w, i32_w]
    rfl
  refine take_ (i := 15) (N := some 20) (v := ?_) (a' := ?_) #[true, true, true, true, true, true, true, true, true, true, true, true, true, true, false, true, false, false, false, false] rfl rfl (take_ofW HT_.out HW_.out (by kernel_rfl)) (fun _ _ _ h => h) (Or.inl ⟨by rfl, ?_⟩) hHeld ?_ ?_
  rotate_left
  · rintro w' ⟨s0, s1, s2, s3, s4, s5, s6, s7, s8, s9⟩
    go_simp
    with_reducible rfl
  rotate_left
  · simp only [Act.put, List.setIfInBounds_toArray, List.set_cons_zero, List.set_cons_succ, i64_w, i32_w]
    rfl
  refine one_ (i := 14) (N := some 19) #[true, true, true, true, true, true, true, true, true, true, true, true, true, true, true, true, false, false, false, false] rfl rfl (one_of HT_.out (by kernel_rfl)) (by decide) (fun K hK => ?_)
  refine goes_ Tryd.func24 (by kernel_rfl) rfl #[.agg #[.int .i64 3, .slice A1 q c1, .slice none 0 0, .slice none 0 0, .int .i64 0]] (by rfl) rfl rfl (by simp only [List.map_toArray, List.map_cons, List.map_nil]; rfl) ?_
  with_reducible refine (HV1.out _ (bdrew (balloc (balloc (Below.refl _ _) (Nat.le_refl _) _) (by simp) _))).mono ?_
  rintro e w3 ⟨A3, c3, rfl, hs3, hb3⟩
  refine ⟨_, rfl, ?_⟩
  have HB3 := Lib.hid ((bdrew (balloc (balloc (Below.refl _ w) (Nat.le_refl _) _) (by simp) _)).trans (hb3.mono (by simp; omega)))
  have HS3 := Lib.hid hs3
  refine hK.out _ _ ⟨((hb3.cell (World.block_lt_of_cell? _ _ hHeld.1)).trans hHeld.1), ((hb3.cell (World.block_lt_of_cell? _ _ hHeld.2.1)).trans hHeld.2.1), ((hb3.cell (World.block_lt_of_cell? _ _ hHeld.2.2.1)).trans hHeld.2.2.1), ((hb3.cell (World.block_lt_of_cell? _ _ hHeld.2.2.2.1)).trans hHeld.2.2.2.1), ((hb3.cell (World.block_lt_of_cell? _ _ hHeld.2.2.2.2.1)).trans hHeld.2.2.2.2.1), ((hb3.cell (World.block_lt_of_cell? _ _ hHeld.2.2.2.2.2.1)).trans hHeld.2.2.2.2.2.1), ((hb3.cell (World.block_lt_of_cell? _ _ hHeld.2.2.2.2.2.2.1)).trans hHeld.2.2.2.2.2.2.1), ((hb3.cell (World.block_lt_of_cell? _ _ hHeld.2.2.2.2.2.2.2.1)).trans hHeld.2.2.2.2.2.2.2.1), ((hb3.cell (World.block_lt_of_cell? _ _ hHeld.2.2.2.2.2.2.2.2.1)).trans hHeld.2.2.2.2.2.2.2.2.1), ((hb3.cell (World.block_lt_of_cell? _ _ hHeld.2.2.2.2.2.2.2.2.2)).trans hHeld.2.2.2.2.2.2.2.2.2)⟩ (fun hHeld => ?_)
  clear hK K
  refine norm_ (a' := ?_) ?_ ?_
  rotate_left
  · show Act.put _ (some 19) _ = _
    simp only [Act.put, List.setIfInBounds_toArray, List.set_cons_zero, List.set_cons_succ, i64_w, i32_w]
    rfl
  refine one_ (i := 16) (N := some 21) #[true, true, true, true, true, true, true, true, true, true, true, true, true, true, true, true, true, false, false, false] rfl rfl (one_of HT_.out (by kernel_rfl)) (by decide) (fun K hK => ?_)
  refine goes_ Tryd.func24 (by kernel_rfl) rfl #[.agg #[.int .i64 3, .slice A2 q c2, .slice none 0 0, .slice none 0 0, .int .i64 0]] (by rfl) rfl rfl (by simp only [List.map_toArray, List.map_cons, List.map_nil]; rfl) ?_
  with_reducible refine (HV2.out _ HB3.out).mono ?_
  rintro e w4 ⟨A4, c4, rfl, hs4, hb4⟩
  refine ⟨_, rfl, ?_⟩
  have HB4 := Lib.hid (bthen HB3.out hb4)
  have HS4 := Lib.hid hs4
  have HS34 := Lib.hid (HS3.out.keep hb4)
  refine hK.out _ _ ⟨((hb4.cell (World.block_lt_of_cell? _ _ hHeld.1)).trans hHeld.1), ((hb4.cell (World.block_lt_of_cell? _ _ hHeld.2.1)).trans hHeld.2.1), ((hb4.cell (World.block_lt_of_cell? _ _ hHeld.2.2.1)).trans hHeld.2.2.1), ((hb4.cell (World.block_lt_of_cell? _ _ hHeld.2.2.2.1)).trans hHeld.2.2.2.1), ((hb4.cell (World.block_lt_of_cell? _ _ hHeld.2.2.2.2.1)).trans hHeld.2.2.2.2.1), ((hb4.cell (World.block_lt_of_cell? _ _ hHeld.2.2.2.2.2.1)).trans hHeld.2.2.2.2.2.1), ((hb4.cell (World.block_lt_of_cell? _ _ hHeld.2.2.2.2.2.2.1)).trans hHeld.2.2.2.2.2.2.1), ((hb4.cell (World.block_lt_of_cell? _ _ hHeld.2.2.2.2.2.2.2.1)).trans hHeld.2.2.2.2.2.2.2.1), ((hb4.cell (World.block_lt_of_cell? _ _ hHeld.2.2.2.2.2.2.2.2.1)).trans hHeld.2.2.2.2.2.2.2.2.1), ((hb4.cell (World.block_lt_of_cell? _ _ hHeld.2.2.2.2.2.2.2.2.2)).trans hHeld.2.2.2.2.2.2.2.2.2)⟩ (fun hHeld => ?_)
  clear hK K
  refine norm_ (a' := ?_) ?_ ?_
  rotate_left
  · show Act.put _ (some 21) _ = _
    simp only [Act.put, List.setIfInBounds_toArray, List.set_cons_zero, List.set_cons_succ, i64_w, i32_w]
    rfl
  refine one_ (i := 17) (N := some 22) #[true, true, true, true, true, true, true, true, true, true, true, true, true, true, true, true, true, true, false, false] rfl rfl (one_of HT_.out (by kernel_rfl)) (by decide) (fun K hK => ?_)
  refine goes_ Tryd.func23 (by kernel_rfl) rfl #[.slice A3 n c3, .slice A4 n c4] (by rfl) rfl rfl (by simp only [List.map_toArray, List.map_cons, List.map_nil]; rfl) ?_
  with_reducible refine (HB.out _ _ _ _ _ HS34.out HS4.out).mono ?_
  rintro e w5 ⟨rfl, hb5⟩
  refine ⟨_, rfl, ?_⟩
  have HB5 := Lib.hid (bthen HB4.out hb5)
  refine hK.out _ _ ⟨((hb5.cell (World.block_lt_of_cell? _ _ hHeld.1)).trans hHeld.1), ((hb5.cell (World.block_lt_of_cell? _ _ hHeld.2.1)).trans hHeld.2.1), ((hb5.cell (World.block_lt_of_cell? _ _ hHeld.2.2.1)).trans hHeld.2.2.1), ((hb5.cell (World.block_lt_of_cell? _ _ hHeld.2.2.2.1)).trans hHeld.2.2.2.1), ((hb5.cell (World.block_lt_of_cell? _ _ hHeld.2.2.2.2.1)).trans hHeld.2.2.2.2.1), ((hb5.cell (World.block_lt_of_cell? _ _ hHeld.2.2.2.2.2.1)).trans hHeld.2.2.2.2.2.1), ((hb5.cell (World.block_lt_of_cell? _ _ hHeld.2.2.2.2.2.2.1)).trans hHeld.2.2.2.2.2.2.1), ((hb5.cell (World.block_lt_of_cell? _ _ hHeld.2.2.2.2.2.2.2.1)).trans hHeld.2.2.2.2.2.2.2.1), ((hb5.cell (World.block_lt_of_cell? _ _ hHeld.2.2.2.2.2.2.2.2.1)).trans hHeld.2.2.2.2.2.2.2.2.1), ((hb5.cell (World.block_lt_of_cell? _ _ hHeld.2.2.2.2.2.2.2.2.2)).trans hHeld.2.2.2.2.2.2.2.2.2)⟩ (fun hHeld => ?_)
  clear hK K
  refine norm_ (a' := ?_) ?_ ?_
  rotate_left
  · show Act.put _ (some 22) _ = _
    simp only [Act.put, List.setIfInBounds_toArray, List.set_cons_zero, List.set_cons_succ, i64_w, i32_w]
    rfl
  refine pure_ (i := 18) (N := some 23) (v := ?_) (a' := ?_) #[true, true, true, true, true, true, true, true, true, true, true, true, true, true, true, true, true, true, true, false] rfl rfl (any_of HT_.out (by kernel_rfl)) (fun _ _ _ h => h) (Or.inl ⟨by rfl, ?_⟩) ?_ ?_
  rotate_left
  · intro w'
    go_simp
    with_reducible rfl
  rotate_left
  · simp only [Act.put, List.setIfInBounds_toArray, List.set_cons_zero, List.set_cons_succ, i64_w, i32_w]
    rfl
  refine pure_ (i := 19) (N := some 4) (v := ?_) (a' := ?_) #[true, true, true, true, true, true, true, true, true, true, true, true, true, true, true, true, true, true, true, true] rfl rfl (any_of HT_.out (by kernel_rfl)) (fun _ _ _ h => h) (Or.inl ⟨by rfl, ?_⟩) ?_ ?_
  rotate_left
  · intro w'
    go_simp
    with_reducible rfl
  rotate_left
  · simp only [Act.put, List.setIfInBounds_toArray, List.set_cons_zero, List.set_cons_succ, i64_w, i32_w]
    rfl
  refine done_ (done_of HT_.out (by kernel_rfl)) ?_
  go_wp2_with fail
  go_ret
  exact ⟨rfl, HB5.out⟩
end Go.Proofs.YtjjfdamlicoeeaaDoor.X
